import PyProof.Rows.All
import PyProof.StrLawsIn
import Wide.Txt
import Open.Head
import KE.KIntText
import Wide.FinOn
import OpenK.AllK
import Wide.All
import Lean
import PySem.Challenge.RW_we0036_03
set_option Elab.async false
set_option maxRecDepth 100000
set_option bootstrap.genMatcherCode false
set_option tactic.hygienic false
set_option genSizeOf false
set_option genInjectivity false
set_option linter.all false
noncomputable section
section
open PySem PySem.W PyProof.Rows PySem.Calls
namespace Mine
def kr1:Lean.Syntax:=Lean.Syntax.node Lean.SourceInfo.none `Lean.Parser.Tactic.tacticSeq #[Lean.Syntax.node Lean.SourceInfo.none `Lean.Parser.Tactic.tacticSeq1Indented #[Lean.Syntax.node Lean.SourceInfo.none `null #[Lean.Syntax.node Lean.SourceInfo.none `tacticKernel_rfl #[Lean.mkAtom "kernel_rfl"]]]]
theorem slot_ci_iter:Slot "callable_iterator" "__iter__" "callable_iterator.__iter__" :=
 .of (owner:= "callable_iterator") (n:= "__iter__") (by rw [typeLookup_type,builtinLookup_eq_fast];kernel_rfl) (by decide +kernel) (by decide +kernel) (by decide +kernel)
  (by first | exact .inl (by decide +kernel) | exact .inr (by decide +kernel)) (by rw [isSubtype_type];kernel_rfl)
theorem slot_ci_next:Slot "callable_iterator" "__next__" "callable_iterator.__next__" :=
 .of (owner:= "callable_iterator") (n:= "__next__") (by rw [typeLookup_type,builtinLookup_eq_fast];kernel_rfl) (by decide +kernel) (by decide +kernel) (by decide +kernel)
  (by first | exact .inl (by decide +kernel) | exact .inr (by decide +kernel)) (by rw [isSubtype_type];kernel_rfl)
theorem entry_ci_iter:entryFor table "callable_iterator.__iter__" =some Builtin.«dict_keyiterator.__iter__»:=
 entryFor_alias (id':= "dict_keyiterator.__iter__") (by kernel_rfl) rfl (by decide +kernel) (by kernel_rfl)
theorem entry_ci_next:entryFor table "callable_iterator.__next__" =some Builtin.«callable_iterator.__next__»:=entryFor_of_tree (by kernel_rfl)
theorem args_ci_iter(a:Value):argsOk "callable_iterator.__iter__" ⟨[a],[]⟩:=by unfold argsOk;kernel_rfl
theorem args_ci_next(a:Value):argsOk "callable_iterator.__next__" ⟨[a],[]⟩:=by unfold argsOk;kernel_rfl
theorem slot_lr_iter:Slot "list_reverseiterator" "__iter__" "list_reverseiterator.__iter__" :=
 .of (owner:= "list_reverseiterator") (n:= "__iter__") (by rw [typeLookup_type,builtinLookup_eq_fast];kernel_rfl) (by decide +kernel) (by decide +kernel) (by decide +kernel)
  (by first | exact .inl (by decide +kernel) | exact .inr (by decide +kernel)) (by rw [isSubtype_type];kernel_rfl)
theorem slot_lr_next:Slot "list_reverseiterator" "__next__" "list_reverseiterator.__next__" :=
 .of (owner:= "list_reverseiterator") (n:= "__next__") (by rw [typeLookup_type,builtinLookup_eq_fast];kernel_rfl) (by decide +kernel) (by decide +kernel) (by decide +kernel)
  (by first | exact .inl (by decide +kernel) | exact .inr (by decide +kernel)) (by rw [isSubtype_type];kernel_rfl)
theorem entry_lr_iter:entryFor table "list_reverseiterator.__iter__" =some Builtin.«dict_keyiterator.__iter__»:=
 entryFor_alias (id':= "dict_keyiterator.__iter__") (by kernel_rfl) rfl (by decide +kernel) (by kernel_rfl)
theorem args_lr_iter(a:Value):argsOk "list_reverseiterator.__iter__" ⟨[a],[]⟩:=by unfold argsOk;kernel_rfl
theorem slot_di_iter:Slot "dict_itemiterator" "__iter__" "dict_itemiterator.__iter__" :=
 .of (owner:= "dict_itemiterator") (n:= "__iter__") (by rw [typeLookup_type,builtinLookup_eq_fast];kernel_rfl) (by decide +kernel) (by decide +kernel) (by decide +kernel)
  (by first | exact .inl (by decide +kernel) | exact .inr (by decide +kernel)) (by rw [isSubtype_type];kernel_rfl)
theorem slot_di_next:Slot "dict_itemiterator" "__next__" "dict_itemiterator.__next__" :=
 .of (owner:= "dict_itemiterator") (n:= "__next__") (by rw [typeLookup_type,builtinLookup_eq_fast];kernel_rfl) (by decide +kernel) (by decide +kernel) (by decide +kernel)
  (by first | exact .inl (by decide +kernel) | exact .inr (by decide +kernel)) (by rw [isSubtype_type];kernel_rfl)
theorem entry_di_iter:entryFor table "dict_itemiterator.__iter__" =some Builtin.«dict_keyiterator.__iter__»:=
 entryFor_alias (id':= "dict_keyiterator.__iter__") (by kernel_rfl) rfl (by decide +kernel) (by kernel_rfl)
theorem args_di_iter(a:Value):argsOk "dict_itemiterator.__iter__" ⟨[a],[]⟩:=by unfold argsOk;kernel_rfl
section
variable {prog:Program} {w:World} {A:Around} {E:Value→Shared→Prop} {s:Shared}
theorem self_iter{T id nid:String}{a:Addr}{Q:Value→Shared→Prop}(hT:s.TypeIs (.ref a) T)(slot:Slot T "__iter__" id)(entry:entryFor table id=some Builtin.«dict_keyiterator.__iter__»)(args:argsOk id ⟨[.ref a],[]⟩)
  (nx:Slot T "__next__" nid) (h:Q (.ref a) s):wpAny (model prog w) A (pyIter (.ref a)) Q E s:=by
 refine wpAny_pyIter_slot hT slot (wpAny_call_entry slot hT entry ?_ args)
 show wpAny _ _ (ret (.ref a)) _ _ s
 exact wpAny_pure ⟨_,rfl,T,_,hT,nx.lookup,h⟩
theorem wIfN{α:Type}{M:Model}{c:Prop}[Decidable c]{x y:Sem α}{Q:α→Shared→Prop}(h:¬c)(q:wpAny M A y Q E s):wpAny M A (if c then x else y) Q E s:=if_neg h▸q
theorem wIfP{α:Type}{M:Model}{c:Prop}[Decidable c]{x y:Sem α}{Q:α→Shared→Prop}(h:c)(q:wpAny M A x Q E s):wpAny M A (if c then x else y) Q E s:=if_pos h▸q
theorem stop_ok{α:Type}{Q:Option Value→Shared→Prop}(hh:A.handled=none)(h:∀h',(∀b o,s.heap.get? b=some o→h'.get? b=some o)→s.heap.objs.size≤h'.objs.size→Q none {s with heap:=h'}):
  wpAny (model prog w) A.in1 (Builtin.SmallTypes.stopIteration:Sem α) (fun X X=>False) (fun e s'=>wpAny (model prog w) A (do if←isInstance e (.type "StopIteration") then pure none else throw e) Q E s') s:=by
 unfold Builtin.SmallTypes.stopIteration
 refine wpAny_bind ?_
 simp only [newExc,newTuple]
 refine wpAny_bind (wpAny_newObj_type ?_ (by size_fits))
 refine wpAny_bind (m:=firstArgMember _ _) (wpAny_of_eq (a:=Value.none) (by first | rfl | (simp only [firstArgMember];rfl)) ?_)
 refine wpAny_newObj_type ?_ (by size_fits)
 simp only [raiseNew]
 refine wpAny_bind (wpAny_handled ?_)
 rw [show A.in1.handled=none from hh]
 refine wpAny_bind (wpAny_pure (wpAny_throw ?_))
 refine wpAny_bind (wpAny_isInstance (T:= "StopIteration") (b:=true) ⟨_,Heap.get?_push_size _ rfl,rfl⟩ isSubtype_stop ?_)
 exact wpAny_pure (h _ (fun b o e=>Heap.get?_push_of_some _ (Heap.get?_push_of_some _ e)) (by simp only [Heap.size_push];lia))
end
theorem zec(t:SetTable)(n:Nat):(t.orStandIn n).led=t.led:=by unfold SetTable.orStandIn;split <;> rfl
theorem zcM{t:SetTable}{n:Nat}(h:t.plain=false):(t.orStandIn n).plain=false:=by unfold SetTable.orStandIn;split <;> first | exact h | rfl
theorem zi8(t:SetTable)(es:Array (Int×Value))(h:Int)(x:Value):(layNew t es h x).2.1.led=t.led:=by
 unfold layNew
 split
 ·dsimp only;rw [zec];rfl
 ·rfl
theorem zf6{t:SetTable}(es:Array (Int×Value))(h:Int)(x:Value)(hp:t.plain=false):(layNew t es h x).2.1.plain=false:=by
 unfold layNew
 split
 ·dsimp only;exact zcM hp
 ·rfl
theorem zdx{t t':SetTable}{hs:Array Int}{n:Nat}{o:Array Nat}(h:t.relaid hs n=some (t',o)):t'.led=t.led∧t'.plain=t.plain:=by
 unfold SetTable.relaid SetTable.laid at h
 simp only [Option.bind_eq_bind,Option.bind_eq_some_iff,Option.pure_def,Option.some.injEq,Prod.mk.injEq] at h
 obtain ⟨X,Z,rfl,Y⟩:=h
 exact ⟨rfl,rfl⟩
set_option tactic.hygienic true in
theorem zeV(t:SetTable)(es:Array (Int×Value))(n:Nat):(relayAll t es n).2.1.led=t.led:=by
 unfold relayAll
 split
 ·rename_i t' o e
  dsimp only
  split
  ·exact (zdx e).1
  ·rfl
 ·rfl
set_option tactic.hygienic true in
theorem zdm{t:SetTable}(es:Array (Int×Value))(n:Nat)(hp:t.plain=false):(relayAll t es n).2.1.plain=false:=by
 unfold relayAll
 split
 ·rename_i t' o e
  dsimp only
  split
  ·exact (zdx e).2.trans hp
  ·rfl
 ·rfl
noncomputable abbrev zad(es:Array (Int×Value))(ep:Nat)(t:SetTable):Obj:={cls:= .type "set",data:= .set es ep t}
section
variable {prog:Program} {w:World} {K:Type} [DecidableEq K] {knd:KeyKind prog w K} {A:Around} {E:Value→Shared→Prop} {s:Shared}
theorem store_at{h:Heap}{a:Addr}{es es':Array (Int×Value)}{ep:Nat}{t t':SetTable}(ho:h.get? a=some (zad es ep t)):(h.update a (Obj.putSet es' t')).get? a=some (zad es' (ep+1) t'):=by
 have:=Heap.get?_update_self (Obj.putSet es' t') ho (by rw [putSet_of (o:=zad es ep t) es' t' rfl];rfl)
 rw [putSet_of (o:=zad es ep t) es' t' rfl] at this;exact this
theorem zgp{g:Bool→Sem Unit}(hg:∀(b:Bool) (s₁:Shared) (Q':Unit→Shared→Prop),Q' () s₁→wpAny (model prog w) A (g b) Q' E s₁)
  {a:Addr} {es:Array (Int×Value)} {ep:Nat} {t:SetTable} (ho:s.heap.get? a=some (zad es ep t))
  {es1:Array (Int×Value)} {t2:SetTable} (hb1:es1.size<scanBound) (hf2:t2.fits es1.size=true) {wasDummy:Bool} {R:Option Bool→Shared→Prop}
  (h:∀h' es' ep' t',Heap.SameBut a s.heap h'→h'.get? a=some (zad es' ep' t')→List.Perm es'.toList es1.toList→t'.fits es'.size=true→t'.led=t2.led→(t2.plain=false→t'.plain=false)→R (some true) {s with heap:=h'}):
  wpAny (model prog w) A (do
    storeSet a es1 t2
    if (!wasDummy&&t2.tooFull)=true then do
      g (relayAll t2 es1 (SetTable.grown es1.size)).2.2
      storeSet a (relayAll t2 es1 (SetTable.grown es1.size)).1 (relayAll t2 es1 (SetTable.grown es1.size)).2.1
      pure (some true)
     else pure (some true)) R E s:=by
 refine wpAny_bind (wpAny_storeSet_of ho rfl ?_ (fits_of_scanBound hb1))
 have ho1:(s.heap.update a (Obj.putSet es1 t2)).get? a=_:=store_at (es':=es1) (t':=t2) ho
 have hsb1:=Heap.SameBut.update s.heap a (Obj.putSet es1 t2)
 split
 ·have hp:=relayAll_perm t2 es1 (SetTable.grown es1.size)
  have hfr:=relayAll_fits t2 es1 (SetTable.grown es1.size)
  have hl:=zeV t2 es1 (SetTable.grown es1.size)
  have hq:=fun q=>zdm es1 (SetTable.grown es1.size) (t:=t2) q
  generalize relayAll t2 es1 (SetTable.grown es1.size)=Rl at hp hfr hl hq⊢
  obtain ⟨es2,t3,gave2⟩:=Rl
  dsimp only at hp hfr hl hq⊢
  have hsz:es2.size=es1.size:=by rw [←Array.length_toList,hp.length_eq,Array.length_toList]
  refine wpAny_bind (hg _ _ _ ?_)
  refine wpAny_bind (wpAny_storeSet_of (o:=zad es1 (ep+1) t2) ho1 rfl ?_ (fits_of_scanBound (by rw [hsz];exact hb1)))
  exact wpAny_pure (h _ es2 _ t3 (hsb1.trans (Heap.SameBut.update _ a _)) (store_at ho1) hp hfr hl hq)
 ·exact wpAny_pure (h _ es1 _ t2 hsb1 ho1 (List.Perm.refl _) hf2 rfl id)
theorem addHashed_ok{a:Addr}{es:Array (Int×Value)}{ep:Nat}{t:SetTable}{k:K}{x:Value}{Q:Bool→Shared→Prop}(hkey:knd.is k x=true)(hsc:x.scannable=true)
  (ho:s.heap.get? a=some (zad es ep t)) (hf:t.fits es.size=true) (hel:ElemsOf knd es.toList) (hb:es.size+1<scanBound)
  (h0:(∃e∈es.toList,knd.is k e.2=true)→Q false s)
  (h1:(¬∃e∈es.toList,knd.is k e.2=true)→∀h' es' ep' t',Heap.SameBut a s.heap h'→h'.get? a=some (zad es' ep' t')→List.Perm es'.toList (es.toList ++ [(knd.hash k,x)])→t'.fits es'.size=true→t'.led=t.led→
   (plainKind x=false∨t.plain=false→t'.plain=false)→Q true {s with heap:=h'}):
  wpAny (model prog w) A (setAddHashed a x (knd.hash k)) Q E s:=by
 unfold setAddHashed setAddHashedIn
 refine wpAny_holding (wpAny_bind (wpAny_setState_of (o:=zad es ep t) ho rfl hf ?_))
 dsimp only
 rw [byScan_of hsc (Nat.lt_of_succ_lt hb) hel]
 simp only [↓reduceIte]
 unfold setAddByScan
 refine wpAny_bind ?_
 refine wpAny_bind (wpAny_rule ?_)
 refine wpAny_bind (wpAny_setScan_of hkey (o:=zad es ep t) ho rfl hf hel ?_)
 induction hr:List.findIdx? (fun e=>knd.is k e.2) es.toList with
 | some j=>
  dsimp only
  have tm103:=List.findIdx?_eq_some_iff_getElem.mp hr
  have hj:=tm103.1
  have hpj:=tm103.2.1
  exact wpAny_pure (wpAny_pure (h0 ⟨_,List.getElem_mem hj,hpj⟩))
 | none=>
  dsimp only
  have hno:¬∃e∈es.toList,knd.is k e.2=true:=by
   rintro ⟨e,he,hp⟩
   have:=List.findIdx?_eq_none_iff.mp hr e he
   rw [hp] at this;cases this
  have hgw:∀(b:Bool) (s₁:Shared) (Q':Unit→Shared→Prop),Q' () s₁→wpAny (model prog w) A (match b with | true=>rule "set.scan.the-table-gave-way" | false=>pure ()) Q' E s₁:=
   fun b s₁ Q' hq=>by induction b <;> first | exact wpAny_pure hq | exact wpAny_rule hq
  have hperm:=layNew_perm t es (knd.hash k) x
  have hfits:=layNew_fits t es (knd.hash k) x
  have hled:=zi8 t es (knd.hash k) x
  have hpl:=fun q=>zf6 (t:=t) es (knd.hash k) x q
  generalize layNew t es (knd.hash k) x=L at hperm hfits hled hpl⊢
  obtain ⟨es1,t1,wasDummy,gave⟩:=L
  dsimp only at hperm hfits hled hpl⊢
  rw [Array.toList_push] at hperm
  have hb1:es1.size<scanBound:=by rw [←Array.length_toList,hperm.length_eq,List.length_append,Array.length_toList];simpa using hb
  refine wpAny_bind (hgw _ _ _ ?_)
  have fin:∀(t2:SetTable),t2.fits es1.size=true→t2.led=t1.led→(plainKind x=false∨t.plain=false→t2.plain=false)→∀h' es' ep' t',Heap.SameBut a s.heap h'→h'.get? a=some (zad es' ep' t')→List.Perm es'.toList es1.toList→t'.fits es'.size=true→t'.led=t2.led→
    (t2.plain=false→t'.plain=false)→Q true {s with heap:=h'}:=fun t2 X q1 q2 h' es' ep' t' a1 a2 a3 a4 a5 a6=>
   h1 hno h' es' ep' t' a1 a2 (a3.trans hperm) a4 (a5.trans (q1.trans hled)) fun q=>a6 (q2 q)
  split
  ·rename_i hp1
   refine wpAny_bind ?_
   rw [hashByValue_scannable 8 hsc]
   refine wpAny_pure ?_
   induction hk:plainKind x with
   | true=>
    simp only [↓reduceIte]
    refine zgp hgw ho hb1 hfits (fun h' es' ep' t' a1 a2 a3 a4 a5 a6=>?_)
    exact wpAny_pure (fin t1 hfits rfl (fun q=>q.elim (fun z=>by rw [hk] at z;cases z) hpl) h' es' ep' t' a1 a2 a3 a4 a5 a6)
   | false=>
    simp only [Bool.false_eq_true,↓reduceIte]
    refine zgp hgw ho hb1 (SetTable.fits_plain_off hfits) (fun h' es' ep' t' a1 a2 a3 a4 a5 a6=>?_)
    exact wpAny_pure (fin _ (SetTable.fits_plain_off hfits) rfl (fun X=>rfl) h' es' ep' t' a1 a2 a3 a4 a5 a6)
  ·rename_i hp1
   refine wpAny_bind (wpAny_pure ?_)
   simp only [↓reduceIte]
   refine zgp hgw ho hb1 hfits (fun h' es' ep' t' a1 a2 a3 a4 a5 a6=>?_)
   exact wpAny_pure (fin t1 hfits rfl (fun X=>by simpa using hp1) h' es' ep' t' a1 a2 a3 a4 a5 a6)
theorem newSet_led{Q:Value→Shared→Prop}(h:Q (.ref s.heap.objs.size) {s with heap:=s.heap.push (zad #[] 0 (.fresh 0 0 (!w.params.followText "set-order")))}):
  wpAny (model prog w) A (newSet (.type "set")) Q E s:=by
 unfold newSet setsByText
 refine wpAny_bind (wpAny_bind (wpAny_askSetting (wpAny_pure ?_)))
 dsimp only
 simp only [newObj]
 exact wpAny_bind (wpAny_alloc (wpAny_pure h))
theorem zbT{l:List Value}(hchk:checkBuiltinCall "set.__new__" ⟨.type "set" :: l,[]⟩ = pure ()){Q₁:Value→Shared→Prop}
  (hl:l.length≤1) (h:Q₁ (.ref s.heap.objs.size) {s with heap:=s.heap.push (zad #[] 0 (.fresh 0 0 (!w.params.followText "set-order")))}):
  codeAny (model prog w) A (.call (.builtin "set.__new__") ⟨.type "set" :: l, []⟩) (wants Q₁ E) s:=by
 refine codeAny_of_tree ?_
 show wpAny _ A.in1 (do checkBuiltinCall "set.__new__" ⟨.type "set" :: l, []⟩;again (.builtin "set.__new__" ⟨.type "set" :: l, []⟩)) _ _ s
 refine wpAny_bind (wpAny_of_eq hchk (wpAny_pure ⟨plainId_quiet PySem.F.plain_set_new _,codeAny_builtin PySem.F.entry_set_new ?_⟩))
 rw [Around.under_plainId PySem.F.plain_set_new _]
 unfold Builtin.«set.__new__» Builtin.Frozenset.newClass
 have hsub:=sub_set_self
 obtain ⟨hp,g,d,tk,os⟩:=s
 dsimp only
 rcases l with _ | ⟨x,_ | ⟨y,r⟩⟩
 ·wp_walk
  refine wpAny_askSetting (wpAny_pure ?_)
  dsimp only
  simp only [newObj]
  refine wpAny_bind (wpAny_alloc (wpAny_pure ?_))
  exact wpAny_pure h
 ·wp_walk
  refine wpAny_askSetting (wpAny_pure ?_)
  dsimp only
  simp only [newObj]
  refine wpAny_bind (wpAny_alloc (wpAny_pure ?_))
  exact wpAny_pure h
 ·simp at hl
end
end Mine
end
section
open PySem PySem.W PyProof.Rows PySem.Calls PySem.Spec
namespace Mine
noncomputable abbrev vStr:Value→Str:=PyProof.Rows.strOf
def TextsAt(w:World)(h:Heap)(S:Addr)(zs:List Str):Prop:=
 ∃es ep t,h.get? S=some (zad es ep t)∧t.fits es.size=true∧t.led = !w.params.followText "set-order" ∧(t.plain=false∨es.size=0)∧(∀e∈es.toList,∃z u,e=(hashStr w z, .str z u))∧
  (es.toList.map fun e=>vStr e.2).Nodup∧(∀z,z∈(es.toList.map fun e=>vStr e.2)↔z∈zs)∧es.size≤zs.length
theorem TextsAt.congr{w:World}{h h':Heap}{S:Addr}{zs:List Str}(x:TextsAt w h S zs)(e:∀o,h.get? S=some o→h'.get? S=some o):TextsAt w h' S zs:=by
 obtain ⟨es,ep,t,a,r⟩:=x;exact ⟨es,ep,t,e _ a,r⟩
section
variable {prog:Program} {w:World} {A:Around} {E:Value→Shared→Prop} {R:Result→Shared→Prop} {s:Shared} {I:Addr} {fp wr:List Addr} {G:Array GenState→Array GenState→Prop} {n:Nat} {P:Nat→Value→Prop} {St:Nat→Shared→Prop}
theorem zmA{w:World}{es:Array (Int×Value)}(h:∀e∈es.toList,∃z u,e=(hashStr w z, .str z u)):ElemsOf (PySem.strKind prog w) es.toList:=by
 intro e he
 obtain ⟨z,u,rfl⟩:=h e he
 exact ⟨⟨z,by simp [PySem.strKind,Value.isStrOf],rfl⟩,rfl⟩
theorem zpX{S:Addr}{zs:List Str}{z:Str}{u:Tok}{Q:Bool→Shared→Prop}(hS:TextsAt w s.heap S zs)(hb:zs.length+1<scanBound)
  (h:∀b h',Heap.SameBut S s.heap h'→TextsAt w h' S (zs ++ [z])→Q b {s with heap:=h',toks:=s.toks+1}):wpAny (model prog w) A (setAdd S (.str z u)) Q E s:=by
 obtain ⟨es,ep,t,ho,hf,hl,hp,he,hn,hm,hz⟩:=hS
 unfold setAdd
 refine wpAny_holding ?_
 have hk:(PySem.strKind prog w).is z (.str z u)=true:=by simp [PySem.strKind,Value.isStrOf]
 refine wpAny_bind ((PySem.strKind prog w).pyHash (k:=z) hk ?_)
 refine addHashed_ok (s:={s with toks:=s.toks+1}) (knd:=PySem.strKind prog w) hk rfl ho hf (zmA he) (by lia) (fun h0=>?_) (fun h1 h' es' ep' t' a1 a2 a3 a4 a5 a6=>?_)
 ·refine h false s.heap (Heap.SameBut.refl _ _) ⟨es,ep,t,ho,hf,hl,hp,he,hn,fun x=>?_,by rw [List.length_append];lia⟩
  obtain ⟨e,h2,h3⟩:=h0
  obtain ⟨y,v,rfl⟩:=he e h2
  have e1:y=z:=by simpa [PySem.strKind,Value.isStrOf] using h3
  subst e1
  rw [List.mem_append,List.mem_singleton,←hm x]
  refine ⟨.inl,fun q=>q.elim id fun q=>?_⟩
  subst q
  exact List.mem_map.mpr ⟨_,h2,rfl⟩
 ·have he':∀e∈es'.toList,∃z u,e=(hashStr w z, .str z u):=by
   intro e q
   rcases List.mem_append.mp (a3.mem_iff.mp q) with q | q
   ·exact he e q
   ·exact ⟨z,u,List.mem_singleton.mp q⟩
  have hp':(es'.toList.map fun e=>vStr e.2).Perm ((es.toList.map fun e=>vStr e.2) ++ [z]):=by
   have:=a3.map fun e=>vStr e.2
   simpa [vStr,PyProof.Rows.strOf] using this
  have hs:es'.size=es.size+1:=by have:=a3.length_eq;simpa using this
  refine h true h' a1 ⟨es',ep',t',a2,a4,a5.trans hl, .inl (a6 (.inl rfl)),he',?_,fun x=>?_,by rw [List.length_append,hs];simp;lia⟩
  ·refine hp'.nodup_iff.mpr (List.nodup_append.mpr ⟨hn,by simp,?_⟩)
   intro x hx y hy e
   subst e
   rw [List.mem_singleton.mp hy] at hx
   obtain ⟨e,h2,h3⟩:=List.mem_map.mp hx
   obtain ⟨y',v,rfl⟩:=he e h2
   have h3:y'=z:=h3
   exact h1 ⟨_,h2,by simp [PySem.strKind,Value.isStrOf,h3]⟩
  ·rw [hp'.mem_iff,List.mem_append,List.mem_append,hm x]
theorem zfK(W:WalksS prog w A.in1 I fp wr G n P St)(S:Addr)(hSf:S∉fp)(val:Nat→Str)(hval:∀i v,P i v→∃t,v = .str (val i) t)(hb:n+1<scanBound):
  ∀(k i:Nat) (s:Shared),n-i=k→i≤n→St i s→TextsAt w s.heap S ((List.range i).map val)→
   (∀s',Moved (S :: wr) G s s'→TextsAt w s'.heap S ((List.range n).map val)→R (.ok (.ret .none)) s')→
   codeAny (model prog w) A (.builtin "set.update.loop" ⟨[.ref S, .ref I], []⟩) R s:=by
 have hSw:S∉wr:=fun h=>hSf (W.sub _ h)
 have hsub:∀b∈wr,b∈S :: wr:=fun b hb=>List.mem_cons_of_mem _ hb
 intro k
 induction k with
 | zero=>
  intro i s hk hi hst hS hR
  have hin:i=n:=Nat.le_antisymm hi (Nat.sub_eq_zero_iff_le.mp hk)
  subst hin
  refine codeAny_builtin PyProof.Rows.F.entry_set_update_loop ?_
  rw [Around.under_plainId PyProof.Rows.F.plain_set_update_loop _]
  show wpAny _ A.in1 (pyNext (.ref I)>>=_) _ _ s
  refine wpAny_bind (W.done s _ _ hst fun s' hm=>?_)
  show wpAny _ A.in1 (ret Value.none) _ _ s'
  exact wpAny_pure (hR s' (hm.mono hsub) (hS.congr fun o e=>hm.heap S _ hSw e))
 | succ k ih=>
  intro i s hk hi hst hS hR
  have hlt:i<n:=Nat.lt_of_sub_pos (hk▸Nat.succ_pos k)
  refine codeAny_builtin PyProof.Rows.F.entry_set_update_loop ?_
  rw [Around.under_plainId PyProof.Rows.F.plain_set_update_loop _]
  show wpAny _ A.in1 (pyNext (.ref I)>>=_) _ _ s
  refine wpAny_bind (W.item i s _ _ hlt hst fun v s' hP hst' hm=>?_)
  obtain ⟨t,rfl⟩:=hval i v hP
  have hS':=hS.congr fun o e=>hm.heap S _ hSw e
  show wpAny _ A.in1 (holding [Value.str (val i) t] (setAdd S (.str (val i) t))>>=_) _ _ s'
  refine wpAny_bind (wpAny_holding ?_)
  refine zpX hS' (by rw [List.length_map,List.length_range];exact Nat.lt_trans (Nat.succ_lt_succ hlt) hb) fun b h' hsb hS2=>?_
  have e:(List.range i).map val ++ [val i]=(List.range (i+1)).map val:=by rw [List.range_succ,List.map_append];rfl
  rw [e] at hS2
  refine wpAny_pure ⟨plainId_quiet PyProof.Rows.F.plain_set_update_loop _,ih (i+1) _ (by rw [←Nat.sub_sub,hk];rfl) hlt (W.frame _ s' _ _ hst' (Nat.le_succ _) fun b hb o e=>?_) hS2 fun s'' hm'' hS''=>?_⟩
  ·rw [hsb.2 b (fun h:b=S=>hSf (by rw [←h];exact hb))];exact e
  ·refine hR s'' (Moved.trans W.gtrans ((hm.mono hsub).then_heap (Nat.le_succ _) fun b o hb e=>?_) hm'') hS''
   rw [hsb.2 b (fun h:b=S=>hb (by rw [h];exact List.mem_cons_self))];exact e
end
section
variable {prog:Program} {w:World} {A:Around} {E:Value→Shared→Prop} {s:Shared}
theorem ziL{h:Heap}:TextsAt w (h.push (zad #[] 0 (.fresh 0 0 (!w.params.followText "set-order")))) h.objs.size []:=
 ⟨#[],0,_,Heap.get?_push_size _ rfl,by rfl,rfl, .inr rfl,fun e he=>by simp at he,by simp,fun z=>by simp,by simp⟩
theorem ziQ:∀{vs:List Value} {ss:List Str},StrsAre vs ss→∀(i:Nat) (v:Value),vs[i]? = some v→∃t,v = .str (ss.getD i (Str.ofString "")) t
 | _,_, .nil,i,v,h=>by simp at h
 | _,_, .cons x t hr,0,v,h=>by simp at h;exact ⟨t,by rw [←h];rfl⟩
 | _,_, .cons x t hr,i+1,v,h=>by
  simp only [List.getElem?_cons_succ] at h
  obtain ⟨t',e⟩:=ziQ hr i v h
  exact ⟨t',by rw [e];rfl⟩
set_option maxHeartbeats 3200000 in
theorem zhx{args:List Value}{Q Q₁:Value→Shared→Prop}(hct:checkTypeCall "set" ⟨args,[]⟩ = pure ())(hn:codeAny (model prog w) A.in1 (.call (.builtin "set.__new__") ⟨.type "set" :: args,[]⟩) (wants Q₁ E) s)
  (hi:∀obj s₁,Q₁ obj s₁→s₁.TypeIs obj "set" ∧codeAny (model prog w) A.in1 (.call (.builtin "set.__init__") ⟨obj :: args, []⟩) (wants (fun r s₂=>r = .none∧Q obj s₂) E) s₁):wpAny (model prog w) A (call (.type "set") args) Q E s:=by
 obtain ⟨c,tl,hmro⟩:=PySem.F.called_set.mro
 have hmade:=PySem.F.called_set.made
 have hsub:=PySem.F.called_set.sub
 refine wpAny_call (codeAny_of_tree ?_)
 show wpAny _ _ (callAny (.type "set") _) _ _ _
 refine wpAny_pure ⟨Code.quiet_builtin _ (by decide +kernel),codeAny_builtin F.entry_type_call ?_⟩
 rw [Around.under_plain (weight_type_call_type "set" args []) rfl]
 have h1:=PySem.F.called_set.notType
 have h2:=PySem.F.called_set.canCreate
 repeat (any_goals (first | assumption | wp_step))
 refine codeAny_mono hn fun r s₁ hr=>?_
 induction r with
 | error e=>exact hr
 | ok fl=>
  induction fl with
  | ret obj=>
   obtain ⟨hT,hc⟩:=hi _ _ hr
   have hli:=PySem.F.called_set.init.lookup
   have hbi:=PySem.F.called_set.init.bind obj
   repeat (any_goals (first | assumption | wp_step))
   refine codeAny_mono hc fun r₂ s₂ hr₂=>?_
   induction r₂ with
   | error e=>exact hr₂
   | ok fl₂=>
    induction fl₂ with
    | ret r=>
     obtain ⟨rfl,hq⟩:=hr₂
     repeat (any_goals (first | assumption | wp_step))
    | _=>exact hr₂.elim
  | _=>exact hr.elim
theorem call_set_nil{Q:Value→Shared→Prop}(h:Q (.ref s.heap.objs.size) {s with heap:=s.heap.push (zad #[] 0 (.fresh 0 0 (!w.params.followText "set-order")))}):
  wpAny (model prog w) A (call (.type "set") []) Q E s:=by
 refine zhx PySem.F.typeCall_set_0 (zbT (l:= []) PySem.F.newCall_set_0 (E:=E) (Q₁:=fun obj s₁=>obj = .ref s.heap.objs.size∧s₁ = {s with heap:=s.heap.push (zad #[] 0 (.fresh 0 0 (!w.params.followText "set-order")))}) (by simp) ⟨rfl,rfl⟩) fun obj s₁ hr=>?_
 obtain ⟨rfl,rfl⟩:=hr
 have hT:Shared.TypeIs {s with heap:=s.heap.push (zad #[] 0 (.fresh 0 0 (!w.params.followText "set-order")))} (.ref s.heap.objs.size) "set" :=⟨_,Heap.get?_push_size _ rfl,rfl⟩
 refine ⟨hT,codeAny_call_builtin PySem.F.called_set.init.plain PySem.F.entry_set_init (check_set_init hT ?_)⟩
 unfold Builtin.«set.__init__» noKeywords
 wp_walk
 exact ⟨rfl,h⟩
theorem zie{l S:Addr}{items:Array Value}{ss:List Str}{R:PySem.Fin→Shared→Prop}(hh:A.handled=none)(hl:s.heap.IsList l items)(hi:StrsAre items.toList ss)(hb:items.size+1<scanBound){led:Bool}(hS0:s.heap.get? S=some (zad #[] 0 (.fresh 0 0 led)))(hS:TextsAt w s.heap S [])(h1:l≠S)(h2:l≠s.heap.objs.size)(h3:S≠s.heap.objs.size)
  (h:∀(h':Heap) (tk:Nat),TextsAt w h' S ((List.range items.size).map fun i=>ss.getD i (Str.ofString ""))→(∀b o,b≠S→b≠s.heap.objs.size→s.heap.get? b=some o→h'.get? b=some o)→R (.done (.ret .none)) {s with heap:=h',toks:=tk}):
  wpAny (model prog w) A.in1.in1 (Builtin.«set.__init__» ⟨[.ref S, .ref l], []⟩) R E s:=by
 have hl1:=hl
 obtain ⟨ol,hol,hcl,nl,hdl⟩:=hl
 obtain ⟨ocls,odict,odata,oslots⟩:=ol
 simp only at hcl hdl
 subst hcl;subst hdl
 have hsls:=PySem.F.sub_list_set
 have hslf:=PySem.F.sub_list_frozenset
 have hne:(Value.type "list" ==Value.type "dict")=false:=by decide
 unfold Builtin.«set.__init__» noKeywords Builtin.Frozenset.updateFrom
 generalize hPI:pyIter=PI
 wp_walk
 subst hPI
 refine wpAny_pyIter_list (s:=s) hl1 ?_
 refine wpAny_bind (wpAny_runValue ?_)
 have hh3:A.in1.in1.in1.handled=none:=hh
 have hSf:S∉ [s.heap.objs.size,l]:=by
  simp only [List.mem_cons,List.mem_singleton,List.not_mem_nil,or_false,not_or]
  exact ⟨h3,Ne.symm h1⟩
 refine zfK ((Walks.list hh3 _ l h2 items).toS) S hSf (fun i=>ss.getD i (Str.ofString "")) (fun i v hv=>ziQ hi i v (by rw [Array.getElem?_toList];exact hv)) hb (items.size-0) 0 _ rfl (Nat.zero_le _)
  ⟨⟨_,Heap.get?_push_size _ rfl,rfl,rfl⟩,(hl1.push _)⟩ (hS.congr fun o e=>Heap.get?_push_of_some _ e) ?_
 intro s' hm hS'
 obtain ⟨h',g',d',tk',os'⟩:=s'
 obtain rfl:g'=s.gens:=hm.gens
 obtain rfl:d'=s.drawn:=hm.drawn
 obtain rfl:os'=s.os:=hm.os
 show wpAny _ _ _ _ _ _
 refine wpAny_pure ?_
 show wpAny _ _ (ret Value.none) _ _ _
 exact wpAny_pure (h h' tk' hS' fun b o q1 q2 e=>hm.heap b o (by simp only [List.mem_cons,List.mem_singleton,List.not_mem_nil,or_false,not_or];exact ⟨q1,q2⟩) (Heap.get?_push_of_some _ e))
set_option maxHeartbeats 3200000 in
theorem call_set_texts{l:Addr}{items:Array Value}{ss:List Str}{Q:Value→Shared→Prop}
  (hh:A.handled=none) (hl:s.heap.IsList l items) (hi:StrsAre items.toList ss) (hb:items.size+1<scanBound)
  (h:∀(h':Heap) (tk:Nat),TextsAt w h' s.heap.objs.size ((List.range items.size).map fun i=>ss.getD i (Str.ofString ""))→
   (∀b o,b<s.heap.objs.size→s.heap.get? b=some o→h'.get? b=some o)→Q (.ref s.heap.objs.size) {s with heap:=h',toks:=tk}):
  wpAny (model prog w) A (call (.type "set") [.ref l]) Q E s:=by
 refine zhx (PySem.F.typeCall_set_1 (.ref l)) (zbT (l:= [.ref l]) (PySem.F.newCall_set_1 (.ref l)) (E:=E) (Q₁:=fun obj s₁=>obj = .ref s.heap.objs.size∧s₁ = {s with heap:=s.heap.push (zad #[] 0 (.fresh 0 0 (!w.params.followText "set-order")))}) (by simp) ⟨rfl,rfl⟩) fun obj s₁ hr=>?_
 obtain ⟨rfl,rfl⟩:=hr
 have hT:Shared.TypeIs {s with heap:=s.heap.push (zad #[] 0 (.fresh 0 0 (!w.params.followText "set-order")))} (.ref s.heap.objs.size) "set" :=⟨_,Heap.get?_push_size _ rfl,rfl⟩
 have hlS:=hl.elim fun X q=>Heap.lt_size q.1
 refine ⟨hT,codeAny_call_builtin PySem.F.called_set.init.plain PySem.F.entry_set_init (check_set_init_1 hT ?_)⟩
 refine zie (s:={s with heap:=s.heap.push (zad #[] 0 (.fresh 0 0 (!w.params.followText "set-order")))}) hh (hl.push _) hi hb (Heap.get?_push_size _ rfl) ziL (Nat.ne_of_lt hlS) ?_ ?_ fun h' tk hS' hk=>⟨rfl,h h' tk hS' fun b o q e=>hk b o (Nat.ne_of_lt q) ?_ (Heap.get?_push_of_some _ e)⟩
 ·show l≠(s.heap.push _).objs.size
  rw [Heap.size_push]
  exact Nat.ne_of_lt (Nat.lt_succ_of_lt hlS)
 ·show s.heap.objs.size≠(s.heap.push _).objs.size
  rw [Heap.size_push]
  exact Nat.ne_of_lt (Nat.lt_succ_self _)
 ·show b≠(s.heap.push _).objs.size
  rw [Heap.size_push]
  exact Nat.ne_of_lt (Nat.lt_succ_of_lt q)
end
theorem zcg:Slot "set_iterator" "__iter__" "set_iterator.__iter__" :=
 .of (owner:= "set_iterator") (n:= "__iter__") (by rw [typeLookup_type,builtinLookup_eq_fast];kernel_rfl) (by decide +kernel) (by decide +kernel) (by decide +kernel)
  (by first | exact .inl (by decide +kernel) | exact .inr (by decide +kernel)) (by rw [isSubtype_type];kernel_rfl)
theorem slot_si_next:Slot "set_iterator" "__next__" "set_iterator.__next__" :=
 .of (owner:= "set_iterator") (n:= "__next__") (by rw [typeLookup_type,builtinLookup_eq_fast];kernel_rfl) (by decide +kernel) (by decide +kernel) (by decide +kernel)
  (by first | exact .inl (by decide +kernel) | exact .inr (by decide +kernel)) (by rw [isSubtype_type];kernel_rfl)
theorem zer:entryFor table "set_iterator.__iter__" =some Builtin.«dict_keyiterator.__iter__»:=
 entryFor_alias (id':= "dict_keyiterator.__iter__") (by kernel_rfl) rfl (by decide +kernel) (by kernel_rfl)
theorem zbQ:entryFor table "set_iterator.__next__" =some Builtin.«set_iterator.__next__»:=entryFor_of_tree (by kernel_rfl)
theorem zfD(a:Value):argsOk "set_iterator.__iter__" ⟨[a],[]⟩:=by unfold argsOk;kernel_rfl
theorem zcr(a:Value):argsOk "set_iterator.__next__" ⟨[a],[]⟩:=by unfold argsOk;kernel_rfl
theorem zdo:entryFor table "set.__iter__" =some Builtin.«frozenset.__iter__»:=
 entryFor_alias (id':= "frozenset.__iter__") (by kernel_rfl) rfl (by decide +kernel) (by kernel_rfl)
theorem entry_set_pop:entryFor table "set.pop" =some Builtin.«set.pop»:=entryFor_of_tree (by kernel_rfl)
theorem zdR{α:Type}(l:List α):∀(i:Nat) (x:α),l[i]? = some x→List.Perm (x :: l.eraseIdx i) l:=by
 induction l with
 | nil=>intro i x h;simp at h
 | cons y l ih=>
  intro i x h
  induction i using Nat.casesOn with
  | zero=>simp at h;subst h;simp
  | succ i=>
   simp only [List.getElem?_cons_succ] at h
   simp only [List.eraseIdx_cons_succ]
   exact (List.Perm.swap y x _).trans ((ih i x h).cons y)
theorem zjs{α:Type}(next:Nat→Nat):∀(fuel k:Nat) (left:List α) (out:Array α),left.length=fuel→List.Perm (pickOrder.go next fuel k left out).toList (out.toList++left)
 | 0,k,left,out,h=>by
  have:left = []:=List.eq_nil_of_length_eq_zero h
  subst this
  exact (List.append_nil out.toList).symm▸List.Perm.refl _
 | fuel+1,k,left,out,h=>by
  have hl:next k%left.length<left.length:=Nat.mod_lt _ (h▸Nat.succ_pos _)
  have e:left[next k%left.length]? = some left[next k%left.length]:=List.getElem?_eq_getElem hl
  conv=>arg 1;arg 1;whnf
  rw [e]
  refine (zjs next fuel (k+1) _ _ ((List.length_eraseIdx_of_lt hl).trans (h▸rfl))).trans ?_
  rw [Array.toList_push,List.append_assoc]
  exact List.Perm.append_left _ (zdR _ _ _ e)
theorem zjr{α:Type}(next:Nat→Nat)(xs:Array α):List.Perm (pickOrder next xs).toList xs.toList:=by
 exact zjs next xs.size 0 xs.toList #[] rfl
section
variable {prog:Program} {w:World} {A:Around} {E:Value→Shared→Prop} {s:Shared}
theorem wpAny_choose{src:Source}{n:Nat}{Q:Nat→Shared→Prop}(hn:n≠0)(h:∀i,i<n→∀d,Q i {s with drawn:=d}):wpAny (model prog w) A (choose src n) Q E s:=fun Γ p hΓ=>by
 unfold choose
 rw [Sem.wp_choose]
 refine ⟨hn,?_⟩
 rw [Sem.wp_pure]
 exact h _ (Nat.mod_lt _ (Nat.pos_of_ne_zero hn)) _
theorem zcp{α:Type}:∀(n:Nat) (xs:List α) {s:Shared} {Q:List α→Shared→Prop},xs.length=n→(∀ys d,List.Perm ys xs→Q ys {s with drawn:=d})→wpAny (model prog w) A (drawOrder n xs) Q E s
 | 0,xs,s,Q,hn,h=>by
  have:xs = []:=List.eq_nil_of_length_eq_zero hn
  subst this
  exact wpAny_pure (h [] s.drawn (List.Perm.refl _))
 | n+1,xs,s,Q,hn,h=>by
  induction xs using List.casesOn with
  | nil=>exact nomatch hn
  | cons x xs=>
   refine wpAny_bind (m:=choose .order (x :: xs).length) (wpAny_choose (Nat.succ_ne_zero _) fun i hi d=>?_)
   have e:(x :: xs)[i]? = some (x :: xs)[i]:=List.getElem?_eq_getElem hi
   rw [e]
   exact wpAny_bind (zcp n ((x :: xs).eraseIdx i) ((List.length_eraseIdx_of_lt hi).trans (Nat.succ.inj hn)) fun ys d' p=>wpAny_pure (h _ d' ((p.cons _).trans (zdR _ _ _ e))))
theorem byText_ok{Q:Bool→Shared→Prop}(h:Q (w.params.followText "set-order") s):wpAny (model prog w) A setsByText Q E s:=by
 unfold setsByText
 exact wpAny_bind (wpAny_askSetting (wpAny_pure h))
end
noncomputable abbrev zq4(first:Value)(i:Int)(S:Value)(n ep:Nat):Obj:={cls:= .type "set_iterator",data:= .fields #[first,rawInt i,S,rawInt n,rawInt ep]}
section
variable {prog:Program} {w:World} {A:Around} {E:Value→Shared→Prop} {s:Shared} {S I:Addr} {es:Array (Int×Value)} {ep:Nat} {t:SetTable}
theorem zj0{Q:Value→Shared→Prop}(hT:s.TypeIs (.ref I) "set_iterator")(h:Q (.ref I) s):wpAny (model prog w) A (pyIter (.ref I)) Q E s:=by
 refine wpAny_pyIter_slot hT zcg (wpAny_call_entry zcg hT zer ?_ (zfD _))
 show wpAny _ _ (ret (.ref I)) _ _ s
 exact wpAny_pure ⟨_,rfl, "set_iterator",_,hT,slot_si_next.lookup,h⟩
theorem zdv{Q:Option Value→Shared→Prop}(hT:s.TypeIs (.ref I) "set_iterator")
  (h:wpAny (model prog w) A.in1 (Builtin.«set_iterator.__next__» ⟨[.ref I], []⟩) (fun fin s'=>∃r,fin = .done (.ret r)∧Q (some r) s') (fun X X=>False) s):wpAny (model prog w) A (pyNext (.ref I)) Q E s:=by
 unfold pyNext
 refine wpAny_bind (wpAny_attempt (wpAny_callSpecial?_slot (name:=Str.ofString "__next__") hT slot_si_next
  (wpAny_call_entry slot_si_next hT zbQ (wpAny_mono h (fun fin s' q=>?_) fun X X q=>q.elim) (zcr _))))
 obtain ⟨r,rfl,q⟩:=q
 exact ⟨r,rfl,wpAny_pure q⟩
theorem zbH{first:Value}{i:Int}{Sv:Value}{n:Nat}{Q:Fin→Shared→Prop}{E':Value→Shared→Prop}(ho:s.heap.get? I=some (zq4 first i Sv n ep))
  (h:wpAny (model prog w) A (do
   let .ref a:=Sv | rule "set_iterator.__next__.exhausted-before";raiseNew (←newExc (.type "StopIteration") [])
   if ((←setEntries a).size:Int) != (n:Int) then
    rule "set_iterator.__next__.size-changed"
    setField (.ref I) 3 (rawInt (-1))
    raiseError "RuntimeError" "Set changed size during iteration"
   if let .int slot _:=first then
    match←setNext a slot.toNat i.toNat (ep:Int).toNat with
    | some (x,next)=>
     setField (.ref I) 0 (rawInt next)
     setField (.ref I) 1 (rawInt (i+1))
     ret x
    | none=>setField (.ref I) 2 .none;raiseNew (←newExc (.type "StopIteration") [])
   else
    let some places←seqItems? first | unsupported "internal:set_iterator"
    match places[i.toNat]? with
    | some (.int place _)=>
     let x←setNextDrawn a place.toNat (ep:Int).toNat
     setField (.ref I) 1 (rawInt (i+1))
     ret x
    | some X=>unsupported "internal:set_iterator"
    | none=>setField (.ref I) 0 (rawInt 0);setField (.ref I) 2 .none;raiseNew (←newExc (.type "StopIteration") [])) Q E' s):
  wpAny (model prog w) A (Builtin.«set_iterator.__next__» ⟨[.ref I], []⟩) Q E' s:=by
 unfold Builtin.«set_iterator.__next__»
 refine wpAny_bind (m:=slotArgs "__next__" 0 _) (wpAny_pure ?_)
 refine wpAny_bind (wpAny_fieldsOf ho rfl ?_)
 exact h
theorem zeS{Q:Option Value→Shared→Prop}(hT:s.TypeIs (.ref I) "set_iterator")
  (h:wpAny (model prog w) A.in1 (Builtin.«set_iterator.__next__» ⟨[.ref I], []⟩) (fun X X=>False) (fun e s'=>wpAny (model prog w) A (do if←isInstance e (.type "StopIteration") then pure none else throw e) Q E s') s):wpAny (model prog w) A (pyNext (.ref I)) Q E s:=by
 unfold pyNext
 exact wpAny_bind (wpAny_attempt (wpAny_callSpecial?_slot (name:=Str.ofString "__next__") hT slot_si_next
  (wpAny_call_entry slot_si_next hT zbQ (wpAny_mono h (fun fin s' q=>q.elim) fun X X q=>q) (zcr _))))
theorem zdV(j:Nat):SetTable.below #[j] 0=0∧SetTable.below #[j] (j+1)=1:=by
 exact ⟨(show SetTable.below #[j] 0=if j<0 then 1 else 0 by kernel_rfl).trans (if_neg (Nat.not_lt_zero j)),(show SetTable.below #[j] (j+1)=if j<j+1 then 1 else 0 by kernel_rfl).trans (if_pos (Nat.lt_succ_self j))⟩
theorem zdw{slot given:Nat}{Q:Option (Value×Nat)→Shared→Prop}(ho:s.heap.get? S=some (zad es ep t))(hf:t.fits es.size=true)(hl:w.params.followText "set-order" =false→t.led=true)
  (h:Q (if w.params.followText "set-order" then ((pickOrder (w.params.setOrder S ep) es)[given]?).map (fun e=>(e.2,slot)) else match es[SetTable.below t.place slot]?,t.place[SetTable.below t.place slot]? with
   | some (_,x),some j=>some (x,j+1)
   | _,_=>none) s) (hd:w.params.followText "set-order" =false→(!t.plain&&decide (es.size>1))=false):wpAny (model prog w) A (setNext S slot given ep) Q E s:=by
 unfold setNext
 refine wpAny_bind (wpAny_setState_of (o:=zad es ep t) ho rfl hf ?_)
 dsimp only
 refine wpAny_bind (byText_ok ?_)
 induction hb:w.params.followText "set-order" with
 | true=>
  rw [hb,if_pos rfl] at h
  refine Mine.wIfP rfl ?_
  refine Mine.wIfN (show¬(ep != ep)=true from (bne_self_eq_false ep).symm▸Bool.false_ne_true) ?_
  refine wpAny_bind ?_
  refine wpAny_bind (m:=setState S) (wpAny_setState_of (o:=zad es ep t) ho rfl hf ?_)
  refine wpAny_bind (byText_ok ?_)
  refine Mine.wIfP hb ?_
  exact wpAny_bind (wpAny_askSetting (wpAny_pure (wpAny_pure h)))
 | false=>
  rw [hb,if_neg Bool.false_ne_true] at h
  refine Mine.wIfN Bool.false_ne_true ?_
  show wpAny _ _ (if (!t.plain&&decide (es.size>1))=true then _ else _) _ _ _
  refine Mine.wIfN (by rw [hd hb];exact Bool.false_ne_true) ?_
  refine wpAny_bind (m:=(if (!t.led && !es.isEmpty)=true then unsupported "set:maker-not-led" else pure ())) ?_
  refine Mine.wIfN (by rw [hl hb];exact Bool.false_ne_true) ?_
  exact wpAny_pure (wpAny_pure h)
abbrev SiA(S I:Addr)(es:Array (Int×Value))(ep:Nat)(t:SetTable)(slots:Nat→Nat)(i:Nat)(h:Heap):Prop:=
 h.get? S=some (zad es ep t)∧h.get? I=some (zq4 (rawInt (slots i)) i (.ref S) es.size ep)
theorem upd2{h:Heap}{I:Addr}{first:Value}{i:Int}{Sv:Value}{n ep:Nat}(ho:h.get? I=some (zq4 first i Sv n ep))(x y:Value)(k l:Nat):
  ((h.update I (Obj.mapFields (·.setIfInBounds k x))).update I (Obj.mapFields (·.setIfInBounds l y))).get? I=some {cls:= .type "set_iterator",data:= .fields ((#[first,rawInt i,Sv,rawInt n,rawInt ep].setIfInBounds k x).setIfInBounds l y)}:=by
 have h1:(h.update I (Obj.mapFields (·.setIfInBounds k x))).get? I=some {cls:= .type "set_iterator",data:= .fields (#[first,rawInt i,Sv,rawInt n,rawInt ep].setIfInBounds k x)}:=Heap.get?_update_self _ ho rfl
 exact Heap.get?_update_self _ h1 rfl
theorem zsM{h:Heap}{I:Addr}{first:Value}{i:Int}{Sv:Value}{n ep:Nat}(ho:h.get? I=some (zq4 first i Sv n ep))(x:Value)(k:Nat):
  (h.update I (Obj.mapFields (·.setIfInBounds k x))).get? I=some {cls:= .type "set_iterator",data:= .fields (#[first,rawInt i,Sv,rawInt n,rawInt ep].setIfInBounds k x)}:=Heap.get?_update_self _ ho rfl
theorem zob(hh:A.handled=none)(hSI:S≠I)(hf:t.fits es.size=true)(hl:w.params.followText "set-order" =false→t.led=true)(hd:w.params.followText "set-order" =false→(!t.plain&&decide (es.size>1))=false)
  (slots:Nat→Nat) (ord:Array Value)
  (hstep:∀i,(if w.params.followText "set-order" then ((pickOrder (w.params.setOrder S ep) es)[i]?).map (fun e=>(e.2,slots i)) else match es[SetTable.below t.place (slots i)]?,t.place[SetTable.below t.place (slots i)]? with
   | some (_,x),some j=>some (x,j+1)
   | _,_=>none)=(ord[i]?).map fun x=>(x,slots (i+1))):
  WalksS prog w A I [I,S] [I] (fun a b=>b=a) ord.size (fun i v=>ord[i]? = some v) (fun i s=>SiA S I es ep t slots i s.heap) where
 sub:=fun b hb=>by rw [List.mem_singleton.mp hb];simp
 grefl:=fun X=>rfl
 gtrans:=fun X X X h1 h2=>h2.trans h1
 frame:=fun i s h' X st X hk=>⟨hk S (by simp) _ st.1,hk I (by simp) _ st.2⟩
 self:=fun i s Q E st hQ=>zj0 ⟨_,st.2,rfl⟩ hQ
 item:=fun i s Q E hi st hQ=>by
  refine zdv ⟨_,st.2,rfl⟩ (zbH st.2 ?_)
  refine wpAny_bind (wpAny_setEntries_of (o:=zad es ep t) st.1 rfl hf ?_)
  refine Mine.wIfN (by simp) ?_
  refine wpAny_bind (zdw (t:=t) st.1 hf hl ?_ hd)
  have e:((slots i:Int)).toNat=slots i:=by simp
  have e2:((i:Int)).toNat=i:=by simp
  have e3:((ep:Int)).toNat=ep:=by simp
  rw [e,e2,e3,hstep i,Array.getElem?_eq_getElem hi]
  dsimp only [Option.map_some]
  refine wpAny_bind (wpAny_setField st.2 rfl (by simp) (wpAny_bind (wpAny_setField (zsM st.2 _ _) rfl (by simp) (wpAny_pure ⟨_,rfl,hQ _ _ (Array.getElem?_eq_getElem hi) ?_ ?_⟩))))
  ·refine ⟨?_,?_⟩
   ·exact (Heap.get?_update_other _ _ (Ne.symm hSI)).trans ((Heap.get?_update_other _ _ (Ne.symm hSI)).trans st.1)
   ·have:=upd2 st.2 (rawInt (slots (i+1):Nat)) (rawInt ((i:Int)+1)) 0 1
    simpa using this
  ·refine ⟨fun b o hb e=>?_,rfl,rfl,rfl,Nat.le_refl _⟩
   have hb:I≠b:=fun h=>hb (by simp [h])
   exact (Heap.get?_update_other _ _ hb).trans ((Heap.get?_update_other _ _ hb).trans e)
 done:=fun s Q E st hQ=>by
  refine zeS ⟨_,st.2,rfl⟩ (zbH st.2 ?_)
  refine wpAny_bind (wpAny_setEntries_of (o:=zad es ep t) st.1 rfl hf ?_)
  refine Mine.wIfN (by simp) ?_
  refine wpAny_bind (zdw (t:=t) st.1 hf hl ?_ hd)
  have e:((slots ord.size:Int)).toNat=slots ord.size:=by simp
  have e2:((ord.size:Int)).toNat=ord.size:=by simp
  have e3:((ep:Int)).toNat=ep:=by simp
  rw [e,e2,e3,hstep _,Array.getElem?_eq_none (Nat.le_refl _)]
  dsimp only [Option.map_none]
  refine wpAny_bind (wpAny_setField st.2 rfl (by simp) ?_)
  refine stop_ok (s:={s with heap:=s.heap.update I (Obj.mapFields (·.setIfInBounds 2 .none))}) hh fun h' hk hz=>hQ _ ⟨fun b o hb e=>?_,rfl,rfl,rfl,Nat.le_refl _⟩
  exact hk _ _ ((Heap.get?_update_other _ _ (fun h=>hb (by simp [h]))).trans e)
end
section
variable {prog:Program} {w:World} {A:Around} {E:Value→Shared→Prop} {s:Shared} {S I T:Addr} {es:Array (Int×Value)} {ep:Nat} {t:SetTable}
theorem zcK{j:Nat}{h0:Int}{x:Value}{Q:Value→Shared→Prop}(ho:s.heap.get? S=some (zad es ep t))(hf:t.fits es.size=true)(hx:es[j]? = some (h0,x))(h:Q x s):
  wpAny (model prog w) A (setNextDrawn S j ep) Q E s:=by
 unfold setNextDrawn
 refine wpAny_bind (wpAny_setState_of (o:=zad es ep t) ho rfl hf ?_)
 dsimp only
 rw [if_neg (by simp),hx]
 exact wpAny_pure h
abbrev SiB(S I T:Addr)(es:Array (Int×Value))(ep:Nat)(t:SetTable)(ps:List Nat)(i:Nat)(h:Heap):Prop:=
 h.get? S=some (zad es ep t)∧h.get? I=some (zq4 (.ref T) i (.ref S) es.size ep)∧h.get? T=some {cls:= .type "tuple",data:= .seq (ps.map fun i=>rawInt (i:Nat)).toArray 0}
theorem zoa(hh:A.handled=none)(hSI:S≠I)(hTI:T≠I)(hf:t.fits es.size=true)(ps:List Nat)(hps:∀p∈ps,p<es.size):
  WalksS prog w A I [I,S,T] [I] (fun a b=>b=a) ps.length (fun i v=>∃p,ps[i]? = some p∧(es[p]?).map (·.2)=some v) (fun i s=>SiB S I T es ep t ps i s.heap) where
 sub:=fun b hb=>by rw [List.mem_singleton.mp hb];simp
 grefl:=fun X=>rfl
 gtrans:=fun X X X h1 h2=>h2.trans h1
 frame:=fun i s h' X st X hk=>⟨hk S (by simp) _ st.1,hk I (by simp) _ st.2.1,hk T (by simp) _ st.2.2⟩
 self:=fun i s Q E st hQ=>zj0 ⟨_,st.2.1,rfl⟩ hQ
 item:=fun i s Q E hi st hQ=>by
  refine zdv ⟨_,st.2.1,rfl⟩ (zbH st.2.1 ?_)
  refine wpAny_bind (wpAny_setEntries_of (o:=zad es ep t) st.1 rfl hf ?_)
  refine Mine.wIfN (by simp) ?_
  refine wpAny_bind (wpAny_seqItems st.2.2 rfl ?_)
  have e2:((i:Int)).toNat=i:=by simp
  have e3:((ep:Int)).toNat=ep:=by simp
  have e4:(ps.map fun i=>rawInt (i:Nat)).toArray[i]? = some (rawInt (ps[i]:Nat)):=by simp [hi]
  have hlt:=hps ps[i] (List.getElem_mem hi)
  dsimp only
  rw [e2,e3,e4]
  refine wpAny_bind (zcK (j:=ps[i]) (h0:=es[ps[i]].1) (x:=es[ps[i]].2) st.1 hf (by rw [Array.getElem?_eq_getElem hlt]) ?_)
  refine wpAny_bind (wpAny_setField st.2.1 rfl (by simp) (wpAny_pure ⟨_,rfl,hQ _ _ ⟨ps[i],List.getElem?_eq_getElem hi,by rw [Array.getElem?_eq_getElem hlt];rfl⟩ ?_ ?_⟩))
  ·refine ⟨(Heap.get?_update_other _ _ (Ne.symm hSI)).trans st.1,?_,(Heap.get?_update_other _ _ (Ne.symm hTI)).trans st.2.2⟩
   have:=zsM st.2.1 (rawInt ((i:Int)+1)) 1
   simpa using this
  ·exact ⟨fun b o hb e=>(Heap.get?_update_other _ _ (fun h=>hb (by simp [h]))).trans e,rfl,rfl,rfl,Nat.le_refl _⟩
 done:=fun s Q E st hQ=>by
  refine zeS ⟨_,st.2.1,rfl⟩ (zbH st.2.1 ?_)
  refine wpAny_bind (wpAny_setEntries_of (o:=zad es ep t) st.1 rfl hf ?_)
  refine Mine.wIfN (by simp) ?_
  refine wpAny_bind (wpAny_seqItems st.2.2 rfl ?_)
  have e2:((ps.length:Int)).toNat=ps.length:=by simp
  have e4:(ps.map fun i=>rawInt (i:Nat)).toArray[ps.length]? = none:=by simp
  dsimp only
  rw [e2,e4]
  refine wpAny_bind (wpAny_setField st.2.1 rfl (by simp) (wpAny_bind (wpAny_setField (zsM st.2.1 _ _) rfl (by simp) ?_)))
  refine stop_ok (s:={s with heap:=(s.heap.update I (Obj.mapFields (·.setIfInBounds 0 (rawInt 0)))).update I (Obj.mapFields (·.setIfInBounds 2 .none))}) hh fun h' hk hz=>hQ _ ⟨fun b o hb e=>?_,rfl,rfl,rfl,Nat.le_refl _⟩
  have hb:I≠b:=fun h=>hb (by simp [h])
  exact hk _ _ ((Heap.get?_update_other _ _ hb).trans ((Heap.get?_update_other _ _ hb).trans e))
theorem zjE(h:Heap):h.get? h.objs.size=none:=by
 induction q:h.get? h.objs.size with
 | none=>rfl
 | some o=>exact absurd (Heap.lt_size q) (Nat.lt_irrefl _)
def zn3(prog:Program)(w:World)(es:Array (Int×Value))(S:Addr)(s₀:Shared)(I:Addr)(s₁:Shared):Prop:=
 ∃(n:Nat) (ord:Array Value) (fp:List Addr) (P:Nat→Value→Prop) (St:Nat→Shared→Prop),List.Perm ord.toList (es.toList.map (·.2))∧n=ord.size∧(∀i v,P i v→ord[i]? = some v)∧
  (∀A':Around,A'.handled=none→WalksS prog w A' I fp [I] (fun a b=>b=a) n P St)∧St 0 s₁∧(∀i s,St i s→s.TypeIs (.ref I) "set_iterator")∧(∀b∈fp,b<s₁.heap.objs.size)∧I∈fp∧s₀.heap.get? I=none∧∀b∈fp,b=S∨s₀.heap.get? b=none
theorem size_one{α:Type}{xs:Array α}(h:xs.size=1):∃x,xs = #[x]:=Array.size_eq_one_iff.mp h
theorem zfV{Q:Value→Shared→Prop}(ho:s.heap.get? S=some (zad es ep t))(hf:t.fits es.size=true)(hl:w.params.followText "set-order" =false→t.led=true)(hp:t.plain=false∨es.size≤1)(hz:es.size<scanBound)
  (h:∀I h' d,(∀b o,s.heap.get? b=some o→h'.get? b=some o)→s.heap.objs.size≤h'.objs.size→zn3 prog w es S s I {s with heap:=h',drawn:=d}→Q (.ref I) {s with heap:=h',drawn:=d}):
  wpAny (model prog w) A (pyIter (.ref S)) Q E s:=by
 have hT:s.TypeIs (.ref S) "set" :=⟨_,ho,rfl⟩
 have lt:S<s.heap.objs.size:=Heap.lt_size ho
 refine wpAny_pyIter_slot hT PySem.F.slot_set_iter (wpAny_call_entry PySem.F.slot_set_iter hT zdo ?_ (PySem.F.args_set_iter_1 _))
 unfold Builtin.«frozenset.__iter__»
 refine wpAny_bind (m:=Builtin.Frozenset.slot0 "__iter__" _) ?_
 unfold Builtin.Frozenset.slot0 slotArgs
 simp only [List.isEmpty_nil,Bool.not_true,Bool.false_eq_true,↓reduceIte,bind_assoc,List.length_nil,bne_self_eq_false]
 unfold Builtin.Frozenset.addrOf
 refine wpAny_bind (wpAny_pure (wpAny_pure ?_))
 refine wpAny_bind ?_
 unfold Builtin.Frozenset.sizeOf
 refine wpAny_bind (wpAny_setEntries_of (o:=zad es ep t) ho rfl hf (wpAny_pure ?_))
 refine wpAny_bind ?_
 unfold setDrawn
 refine wpAny_bind (wpAny_setState_of (o:=zad es ep t) ho rfl hf ?_)
 dsimp only
 refine wpAny_bind (byText_ok ?_)
 show wpAny _ _ (pure (!w.params.followText "set-order" &&(!t.plain&&decide (es.size>1)))) _ _ _
 refine wpAny_pure ?_
 have endA:∀(slots:Nat→Nat) (ord:Array Value),slots 0=0→List.Perm ord.toList (es.toList.map (·.2))→(w.params.followText "set-order" =false→(!t.plain&&decide (es.size>1))=false)→
   (∀i,(if w.params.followText "set-order" then ((pickOrder (w.params.setOrder S ep) es)[i]?).map (fun e=>(e.2,slots i)) else match es[SetTable.below t.place (slots i)]?,t.place[SetTable.below t.place (slots i)]? with
   | some (_,x),some j=>some (x,j+1)
   | _,_=>none)=(ord[i]?).map fun x=>(x,slots (i+1)))→
   wpAny (model prog w) A.in1 (do ret (←newFields "set_iterator" [rawInt 0,rawInt 0, .ref S,rawInt es.size,rawInt (←setEpoch S)])) (fun fin s'=>∃r,fin = .done (.ret r)∧∃T' r',s'.TypeIs r T'∧typeLookup (.type T') "__next__" =pure (some r')∧Q r s') E s:=by
  intro slots ord hs0 hord hd hstep
  refine wpAny_bind (wpAny_setEpoch_of (o:=zad es ep t) ho rfl hf ?_)
  refine wpAny_bind (wpAny_newObj_type (wpAny_pure ⟨_,rfl, "set_iterator",_,⟨_,Heap.get?_push_size _ rfl,rfl⟩,slot_si_next.lookup,?_⟩))
  refine h s.heap.objs.size _ s.drawn (fun b o e=>Heap.get?_push_of_some _ e) (by simp only [Heap.size_push];lia) ⟨ord.size,ord,_,_,_,hord,rfl,fun i v q=>q,fun A' hA=>zob (I:=s.heap.objs.size) hA (Nat.ne_of_lt lt) hf hl hd slots ord hstep,?_,fun i s st=>⟨_,st.2,rfl⟩,?_,by simp,zjE _,?_⟩
  ·refine ⟨Heap.get?_push_of_some _ ho,?_⟩
   show Heap.get? (s.heap.push _) _=some (zq4 (rawInt (slots 0:Nat)) _ _ _ _)
   rw [hs0]
   exact Heap.get?_push_size _ rfl
  ·intro b hb
   show b<(s.heap.push _).objs.size
   rw [Heap.size_push]
   simp only [List.mem_cons,List.not_mem_nil,or_false] at hb
   rcases hb with rfl | rfl
   ·exact Nat.lt_succ_self _
   ·exact Nat.lt_succ_of_lt lt
  ·intro b hb
   simp only [List.mem_cons,List.not_mem_nil,or_false] at hb
   rcases hb with rfl | rfl
   ·exact .inr (zjE _)
   ·exact .inl rfl
 induction hb:w.params.followText "set-order" with
 | true=>
  rw [hb] at endA
  simp only [Bool.not_true,Bool.false_and,Bool.false_eq_true,if_false]
  refine wpAny_bind (wpAny_pure ?_)
  refine endA (fun X=>0) ((pickOrder (w.params.setOrder S ep) es).map (·.2)) rfl ?_ (fun q=>by cases q) (fun i=>?_)
  ·rw [Array.toList_map];exact (zjr _ _).map _
  ·rw [if_pos rfl,Array.getElem?_map]
   induction (pickOrder (w.params.setOrder S ep) es)[i]? <;> rfl
 | false=>
  simp only [Bool.not_false,Bool.true_and]
  by_cases hc:(!t.plain&&decide (es.size>1))=true
  ·refine Mine.wIfP hc ?_
   refine wpAny_bind (zcp _ _ (by simp) fun ps d hps=>?_)
   have hlen:ps.length=es.size:=by have:=hps.length_eq;simpa using this
   have hm:∀p∈ps,p<es.size:=fun p hp'=>by have:=hps.mem_iff.mp hp';simpa using this
   have hzz:ps.length≤sizeLine:=by rw [hlen];exact fits_of_scanBound hz
   simp only [newTuple]
   refine wpAny_bind (wpAny_newObj_type ?_ (by simp only [sizeOk,List.size_toArray,List.length_map];exact hzz))
   refine wpAny_bind (wpAny_setEpoch_of (o:=zad es ep t) (Heap.get?_push_of_some _ ho) rfl hf ?_)
   refine wpAny_bind (wpAny_newObj_type (wpAny_pure ⟨_,rfl, "set_iterator",_,⟨_,Heap.get?_push_size _ rfl,rfl⟩,slot_si_next.lookup,?_⟩))
   have hIz:∀o,(s.heap.push o).objs.size=s.heap.objs.size+1:=fun o=>Heap.size_push ..
   refine h _ _ d (fun b o e=>Heap.get?_push_of_some _ (Heap.get?_push_of_some _ e)) (by simp only [Heap.size_push];lia) ⟨ps.length,(ps.filterMap fun p=>(es[p]?).map (·.2)).toArray,_,_,_,?_,?_,fun i v q=>?_,
    fun A' hA=>zoa (S:=S) (T:=s.heap.objs.size) (ep:=ep) hA (by rw [hIz];exact Nat.ne_of_lt (Nat.lt_succ_of_lt lt)) (by rw [hIz];exact Nat.ne_of_lt (Nat.lt_succ_self _)) hf ps hm,?_,fun i s st=>⟨_,st.2.1,rfl⟩,?_,by simp,?_,?_⟩
   ·have e1:es.toList.map (·.2)=(List.range es.size).filterMap fun p=>(es[p]?).map (·.2):=by
     have:=filterMap_getElem?_range es
     rw [←this,List.map_filterMap]
    rw [e1]
    exact hps.filterMap _
   ·rw [List.size_toArray]
    clear hzz hlen hps
    induction ps with
    | nil=>rfl
    | cons p ps ih=>
     rw [List.filterMap_cons,Array.getElem?_eq_getElem (hm p List.mem_cons_self)]
     simp only [Option.map_some,List.length_cons]
     rw [ih fun q hq=>hm q (List.mem_cons_of_mem _ hq)]
   ·obtain ⟨p,q1,q2⟩:=q
    rw [List.getElem?_toArray]
    clear hzz hlen hps
    induction ps generalizing i with
    | nil=>simp at q1
    | cons p' ps ih=>
     rw [List.filterMap_cons,Array.getElem?_eq_getElem (hm p' List.mem_cons_self)]
     simp only [Option.map_some]
     induction i using Nat.casesOn with
     | zero=>
      simp only [List.getElem?_cons_zero,Option.some.injEq] at q1
      subst q1
      rw [Array.getElem?_eq_getElem (hm p' List.mem_cons_self)] at q2
      simpa using q2
     | succ i=>
      simp only [List.getElem?_cons_succ] at q1⊢
      exact ih (fun q hq=>hm q (List.mem_cons_of_mem _ hq)) i q1
   ·refine ⟨Heap.get?_push_of_some _ (Heap.get?_push_of_some _ ho),Heap.get?_push_size _ rfl,Heap.get?_push_of_some _ (Heap.get?_push_size _ rfl)⟩
   ·intro b hb
    show b<(Heap.push _ _).objs.size
    rw [Heap.size_push,Heap.size_push]
    simp only [List.mem_cons,List.not_mem_nil,or_false] at hb
    rcases hb with rfl | rfl | rfl
    ·rw [hIz];exact Nat.lt_succ_self _
    ·exact Nat.lt_succ_of_lt (Nat.lt_succ_of_lt lt)
    ·exact Nat.lt_succ_of_lt (Nat.lt_succ_self _)
   ·induction q:s.heap.get? _ with
    | none=>rfl
    | some o=>exact absurd (Heap.lt_size q) (by rw [hIz];exact Nat.not_lt.mpr (Nat.le_succ _))
   ·intro b hb
    simp only [List.mem_cons,List.not_mem_nil,or_false] at hb
    rcases hb with rfl | rfl | rfl
    ·right
     induction q:s.heap.get? _ with
     | none=>rfl
     | some o=>exact absurd (Heap.lt_size q) (by rw [hIz];exact Nat.not_lt.mpr (Nat.le_succ _))
    ·exact .inl rfl
    ·exact .inr (zjE _)
  ·refine Mine.wIfN hc ?_
   refine wpAny_bind (wpAny_pure ?_)
   have h1:es.size≤1:=by
    rcases hp with q | q
    ·simp only [q,Bool.not_false,Bool.true_and,decide_eq_true_eq] at hc
     lia
    ·exact q
   have hc':(!t.plain&&decide (es.size>1))=false:=by simpa using hc
   have hps:t.place.size=es.size:=by simp only [SetTable.fits,Bool.and_eq_true,beq_iff_eq] at hf;exact hf.1
   rw [hb] at endA
   rcases Nat.lt_or_ge es.size 1 with q | q
   ·have e0:es = #[]:=Array.size_eq_zero_iff.mp (by lia)
    subst e0
    refine endA (fun X=>0) #[] rfl (by simp) (fun X=>hc') (fun i=>?_)
    rw [if_neg (by simp)]
    simp
   ·obtain ⟨e,rfl⟩:=size_one (xs:=es) (by lia)
    obtain ⟨j,hj⟩:=size_one (xs:=t.place) (by rw [hps];rfl)
    rw [hj] at endA
    refine endA (fun i=>if i=0 then 0 else j+1) #[e.2] rfl (by simp) (fun X=>hc') (fun i=>?_)
    rw [if_neg (by simp)]
    induction i using Nat.casesOn with
    | zero=>simp [(zdV j).1]
    | succ i=>simp [(zdV j).2]
end
end Mine
end
section
open PySem
namespace Mine
theorem upd_size(h:Heap)(a:Addr)(f:Obj→Obj):(h.update a f).objs.size=h.objs.size:=(Heap.SameBut.update h a f).1
theorem zcL{M:Model}{Γ:Ctx}{p:Pos}{t:Sem Fin}{fs:List Frame}{s s':Shared}{e:End}(h:Runs M Γ p t fs s e s'):s.heap.objs.size≤s'.heap.objs.size:=by
 induction h <;> (try simp only [Shared.setGen,upd_size,Heap.size_push] at *) <;> lia
theorem zeU{M:Model}{Γ:Ctx}{p:Pos}{s s':Shared}{r:Result}(h:Returns M Γ p s r s'):s.heap.objs.size≤s'.heap.objs.size:=zcL h
theorem zhG{M:Model}{Γ:Ctx}{p:Pos}{g:Nat}{r:Resume}{s s':Shared}{res:GenResult}(h:Wakes M Γ p g r s res s'):s.heap.objs.size≤s'.heap.objs.size:=by
 unfold Wakes at h
 split at h
 ·exact h.elim
 ·split at h
  ·obtain ⟨X,s₁,hr,Z,Y,rfl⟩:=h
   exact (zcL hr:(s.setGen g .running).heap.objs.size≤s₁.heap.objs.size)
  all_goals (rw [h.2];exact Nat.le_refl _)
 ·obtain ⟨X,s₁,hr,Z,Y,rfl⟩:=h
  exact (zcL hr:(s.setGen g .running).heap.objs.size≤s₁.heap.objs.size)
 all_goals (rw [h.2];exact Nat.le_refl _)
theorem zo9{α:Type}(M:Model)(Γ:Ctx)(n:Nat)(t:Sem α):∀(Q:α→Pos→Shared→Prop) (E:Value→Pos→Shared→Prop) (p:Pos) (s:Shared),n≤s.heap.objs.size→
  Sem.wp M Γ t (fun a p' s'=>n≤s'.heap.objs.size→Q a p' s') E p s→Sem.wp M Γ t Q E p s:=by
 induction t with
 | pure a=>intro Q E p s hn h;exact h hn
 | raise e=>intro Q E p s hn h;exact h
 | unsupported X=>intro Q E p s _ h;exact h
 | finish X=>intro Q E p s _ h;exact h
 | rule X k ih=>intro Q E p s hn h;exact ih () Q E p s hn h
 | «at» p' k ih=>intro Q E p s hn h;exact ih () Q E p' s hn h
 | load a X k ih=>intro Q E p s hn h;obtain ⟨o,ho,h⟩:=h;exact ⟨o,ho,ih o Q E p s hn h⟩
 | update a X f k ih=>intro Q E p s hn h;exact ⟨h.1,ih () Q E p _ (by rw [upd_size];exact hn) h.2⟩
 | loadIfAlive a k ih=>intro Q E p s hn h;exact ih _ Q E p s hn h
 | point X k ih=>intro Q E p s hn h;exact ih () Q E p s hn h
 | register X Z=>intro Q E p s _ h;exact h
 | alloc o k ih=>intro Q E p s hn h;exact ih _ Q E p _ (by rw [Heap.size_push];lia) h
 | fresh k ih=>intro Q E p s hn h;exact ih _ Q E p _ hn h
 | ask k ih=>intro Q E p s hn h;exact ih _ Q E p s hn h
 | choose src m k ih=>intro Q E p s hn h;exact ⟨h.1,ih _ Q E p _ hn h.2⟩
 | os q X k ih=>intro Q E p s hn h;exact ih _ Q E p _ hn h
 | call c hd X Z k ih=>intro Q E p s hn h;obtain ⟨r,s',hr,h⟩:=h;exact ⟨r,s',hr,ih r Q E p s' (Nat.le_trans hn (zeU hr)) h⟩
 | handled own k ih=>intro Q E p s hn h;exact ih _ Q E p s hn h
 | genState g k ih=>intro Q E p s hn h;obtain ⟨st,hs,h⟩:=h;exact ⟨st,hs,ih _ Q E p s hn h⟩
 | newGen c k ih=>intro Q E p s hn h;exact ih _ Q E p _ hn h
 | resume g r X k ih=>intro Q E p s hn h;obtain ⟨res,s',hw,h⟩:=h;exact ⟨res,s',hw,ih res Q E p s' (Nat.le_trans hn (zhG hw)) h⟩
 | yield X Z Y J=>intro Q E p s _ h;exact h
 | stack k ih=>intro Q E p s hn h;exact ih _ Q E p s hn h
 | fork X Z=>intro Q E p s _ h;exact h
 | thread k ih=>intro Q E p s hn h;exact ih _ Q E p s hn h
 | await X Z Y J U=>intro Q E p s _ h;exact h
theorem wpAny_sz{α:Type}{M:Model}{A:Around}{E:Value→Shared→Prop}{s:Shared}{t:Sem α}{Q:α→Shared→Prop}(h:wpAny M A t (fun a s'=>s.heap.objs.size≤s'.heap.objs.size→Q a s') E s):wpAny M A t Q E s:=
 fun Γ p hΓ=>zo9 M Γ s.heap.objs.size t _ _ p s (Nat.le_refl _) (h Γ p hΓ)
end Mine
end
section
open PySem PySem.W PyProof.Rows PySem.Calls PySem.Spec
namespace Mine
theorem ze3:splitId "set.__len__" =some ("set", "__len__"):=by kernel_rfl
section
variable {prog:Program} {w:World} {A:Around} {E:Value→Shared→Prop} {s:Shared} {S I T:Addr} {es:Array (Int×Value)} {ep:Nat} {t:SetTable}
theorem zmr{Q:Bool→Shared→Prop}(hT:s.TypeIs (.ref S) "set")(h:Q false s):wpAny (model prog w) A (Builtin.List.listLengthHint (.ref S)) Q E s:=by
 refine wpAny_bind (m:=specialOf (.ref S) "__len__") (wpAny_specialOf hT PySem.F.slot_set_len.lookup ?_)
 dsimp only
 rw [ze3]
 refine wpAny_bind (m:=isInstance (.ref S) (.type "set")) (wpAny_isInstance hT sub_set_self ?_)
 refine Mine.wIfN (by decide) ?_
 refine wpAny_bind (m:=typeOf (.ref S)) (wpAny_typeOf hT ?_)
 exact wpAny_pure h
theorem zmi{ord acc:Array Value}{P:Nat→Value→Prop}(hP:∀i v,P i v→ord[i]? = some v)(h:ItemsOf P acc ord.size):acc=ord:=by
 refine Array.ext h.1 fun i h1 h2=>?_
 have a:=hP i acc[i] (h.2 i acc[i] (Array.getElem?_eq_getElem h1))
 rw [Array.getElem?_eq_getElem h2] at a
 exact (Option.some.inj a).symm
set_option maxHeartbeats 1000000 in
theorem zgi{Q:List Value→Shared→Prop}(hh:A.handled=none)(ho:s.heap.get? S=some (zad es ep t))(hf:t.fits es.size=true)(hl:w.params.followText "set-order" =false→t.led=true)(hp:t.plain=false∨es.size≤1)(hz:es.size<scanBound)
  (h:∀ord h' d tk,List.Perm ord (es.toList.map (·.2))→(∀b o,s.heap.get? b=some o→h'.get? b=some o)→s.heap.objs.size≤h'.objs.size→Q ord {s with heap:=h',drawn:=d,toks:=tk}):
  wpAny (model prog w) A (collect (.ref S)) Q E s:=by
 have lt:S<s.heap.objs.size:=Heap.lt_size ho
 refine wpAny_sz ?_
 unfold collect
 refine wpAny_bind (wpAny_runValue (codeAny_builtin PySem.F.entry_proto_collect ?_))
 rw [Around.under_plainId PySem.F.plain_proto_collect _]
 show wpAny _ A.in1 (newList []>>=fun l=>again (.builtin "list.__iadd__" ⟨[l, .ref S], []⟩)) _ _ s
 refine wpAny_bind (wpAny_newObj_type ?_)
 refine wpAny_pure ⟨plainId_quiet PySem.F.plain_list_iadd _,codeAny_builtin PySem.F.entry_list_iadd ?_⟩
 rw [Around.under_plainId PySem.F.plain_list_iadd _]
 have ho1:(s.heap.push {cls:= .type "list",data:= .seq ([]:List Value).toArray}).get? S=some (zad es ep t):=Heap.get?_push_of_some _ ho
 have hL1:(s.heap.push {cls:= .type "list",data:= .seq ([]:List Value).toArray}).get? s.heap.objs.size=some {cls:= .type "list",data:= .seq ([]:List Value).toArray}:=Heap.get?_push_size _ rfl
 have h1:Builtin.List.listSameRef (.ref s.heap.objs.size) (.ref S)=false:=by
  show (s.heap.objs.size==S)=false
  exact beq_eq_false_iff_ne.mpr (Nat.ne_of_gt lt)
 show wpAny _ A.in1 (Builtin.List.listExtendWith (.ref s.heap.objs.size) (.ref S) (.ref s.heap.objs.size)) _ _ _
 unfold Builtin.List.listExtendWith
 refine wpAny_bind (wpAny_typeOf (T:= "set") ⟨_,ho1,rfl⟩ ?_)
 refine Mine.wIfN (by rw [h1];decide) ?_
 refine wpAny_bind (zfV (s:={s with heap:=s.heap.push {cls:= .type "list",data:= .seq ([]:List Value).toArray}}) ho1 hf hl hp hz fun I h' d hk hsz W=>?_)
 obtain ⟨n,ord,fp,P,St,w1,w2,w3,w4,w5,w6,w7,w8,w9,w10⟩:=W
 refine wpAny_bind (wpAny_holding ?_)
 refine zmr ⟨_,hk _ _ ho1,rfl⟩ ?_
 show wpAny _ A.in1 (rule "list.extend.makes-room" >>=fun X=>Builtin.List.listTouch (.ref s.heap.objs.size)>>=fun X=>
  again (.builtin "list.extend.loop" ⟨[.ref s.heap.objs.size, .ref I, .ref s.heap.objs.size], []⟩)) _ _ _
 refine wpAny_bind (wpAny_rule ?_)
 have hS₁:=hk _ _ hL1
 have hSf:s.heap.objs.size∉fp:=by
  intro hm
  rcases w10 _ hm with q | q
  ·exact absurd q (Nat.ne_of_gt lt)
  ·rw [hL1] at q;cases q
 refine wpAny_bind ?_
 show wpAny _ A.in1 (updateSeq s.heap.objs.size (·.push .none)>>=fun X=>updateSeq s.heap.objs.size (·.pop)) _ _ _
 refine wpAny_bind (wpAny_updateSeq hS₁ rfl ?_)
 have hS₂:=Heap.get?_update_self (Obj.mapSeq (·.push Value.none)) hS₁ rfl
 refine wpAny_updateSeq hS₂ rfl ?_
 have hS₃:=Heap.get?_update_self (Obj.mapSeq (·.pop)) hS₂ rfl
 have oth:∀b o,b≠s.heap.objs.size→h'.get? b=some o→((h'.update s.heap.objs.size (Obj.mapSeq (·.push Value.none))).update s.heap.objs.size (Obj.mapSeq (·.pop))).get? b=some o:=
  fun b o hb e=>(Heap.get?_update_other _ _ (Ne.symm hb)).trans ((Heap.get?_update_other _ _ (Ne.symm hb)).trans e)
 have WW:=w4 A.in1 (by simp [hh])
 have hn:n≤sizeLine:=by
  rw [w2]
  have:=w1.length_eq
  simp at this
  rw [this]
  exact fits_of_scanBound hz
 refine wpAny_pure ⟨plainId_quiet PySem.F.plain_extend_loop _,codeAny_extend_loopS WW hn _ hSf _ n 0 _ _ _ rfl (Nat.zero_le _)
  (WW.frame 0 {s with heap:=h',drawn:=d} _ s.toks w5 (Nat.le_refl _) fun b hb o e=>oth b o (fun h=>hSf (h▸hb)) e) hS₃ (ItemsOf.nil P) fun s' acc' c' hm hS' hacc=>?_⟩
 show wpAny _ A (load s.heap.objs.size>>=_) _ _ s'
 refine wpAny_bind (wpAny_load hS' ?_)
 rw [w2] at hacc
 rw [zmi w3 hacc]
 refine wpAny_pure fun hsz'=>?_
 obtain ⟨h2,g2,d2,tk2,os2⟩:=s'
 have eg:g2=s.gens:=hm.gens
 have ed:d2=d:=hm.drawn
 have eo:os2=s.os:=hm.os
 subst eg;subst ed;subst eo
 refine h ord.toList h2 d2 tk2 w1 (fun b o e=>?_) hsz'
 have hb:b≠s.heap.objs.size:=Nat.ne_of_lt (Heap.lt_size e)
 refine hm.heap b o (fun q=>?_) (oth b o hb (hk _ _ (Heap.get?_push_of_some _ e)))
 rcases List.mem_cons.mp q with q | q
 ·exact hb q
 ·obtain rfl:=List.mem_singleton.mp q
  rw [Heap.get?_push_of_some _ e] at w9;cases w9
theorem sorted_set'{Q:Value→Shared→Prop}(hh:A.handled=none)(ho:s.heap.get? S=some (zad es ep t))(hf:t.fits es.size=true)(hl:w.params.followText "set-order" =false→t.led=true)(hp:t.plain=false∨es.size≤1)(hz:es.size<64)
  (hstr:∀e∈es.toList,∃z u,e.2 = .str z u)
  (h:∀L h' d tk out e ss,(∀b o,s.heap.get? b=some o→h'.get? b=some o)→s.heap.objs.size≤h'.objs.size→s.heap.objs.size≤L→h'.get? L=some (seqObj "list" out e)→StrsAre out.toList ss→ss.Perm (es.toList.map fun e=>vStr e.2)→sortedS ss=true→Q (.ref L) {s with heap:=h',drawn:=d,toks:=tk}):
  wpAny (model prog w) A (call (.builtin "sorted") [.ref S]) Q E s:=by
 refine Calls.call_function_entry kind_sorted plain_sorted entry_sorted (args_sorted1 _) ?_
 unfold Builtin.«sorted»
 refine wpAny_bind (m:=checkCount "sorted" 1 1 _) (wpAny_pure ?_)
 have hzz:es.size<scanBound:=Nat.lt_trans hz (by decide)
 refine wpAny_bind (zgi (by simp [hh]) ho hf hl hp hzz fun ord h' d tk hord hk hsz=>?_)
 have hlen:ord.length=es.size:=by have:=hord.length_eq;simpa using this
 have hv:∀v∈ord,∃x t,v=Value.str x t:=by
  intro v hv
  obtain ⟨e,he,rfl⟩:=List.mem_map.mp (hord.mem_iff.mp hv)
  obtain ⟨z,u,q⟩:=hstr e he
  exact ⟨z,u,q⟩
 have hS:=strsAre_map ord hv
 refine wpAny_bind (wpAny_newList ?_ (by first | (rw [hlen];exact fits_of_scanBound hzz) | (simp only [sizeOk,List.size_toArray];rw [hlen];exact fits_of_scanBound hzz)))
 have hoL:(h'.push (seqObj "list" ord.toArray 0)).get? h'.objs.size=some (seqObj "list" ord.toArray 0):=Heap.get?_push_size _ rfl
 refine wpAny_bind (wpAny_holding (wpAny_call_entry slot_list_sort ⟨_,hoL,rfl⟩ entry_list_sort (list_sort_treeK strKind_oneLt hoL hS.keysOf (fun v₁ v₂ rest e=>keyKind_strs (by rw [←e];exact hS)) (by rw [hlen];exact hz) fun st' a1 a2=>⟨_,rfl,?_⟩) (args_list_sort _)))
 obtain ⟨ss,b1,b2,b3⟩:=sorted_out_str hS a1 a2
 obtain ⟨e,he⟩:=sortedHeap_at (out:=(arrOf st').map (·.2)) hoL
 refine wpAny_pure ⟨_,rfl,h h'.objs.size _ d tk _ e ss (fun b o q=>?_) ?_ ?_ he b1 ?_ b3⟩
 ·rw [sortedHeap_old (Nat.ne_of_lt (Heap.lt_size (hk _ _ q))) (by rw [Heap.size_push];exact Nat.lt_succ_of_lt (Heap.lt_size (hk _ _ q)))]
  exact Heap.get?_push_of_some _ (hk _ _ q)
 ·simp only [sortedHeap,upd_size,Heap.size_push];lia
 ·exact hsz
 ·refine b2.trans ?_
  have:=hord.map vStr
  rwa [List.map_map] at this
end
end Mine
end
section
open PySem PySem.W PyProof.Rows PySem.Calls PySem.Builtin.Re
namespace Mine
theorem zbm:entryFor table "re.Pattern.search" =some Builtin.«re.Pattern.search»:=entryFor_of_tree (by kernel_rfl)
theorem zbC(a b:Value):argsOk "re.Pattern.search" ⟨[a,b],[]⟩:=by unfold argsOk;kernel_rfl
theorem zfX(v:Value):reNamed "re.Pattern.search" "search" ["string", "pos", "endpos"] 1 [v] []=pure [some v,none,none]:=by kernel_rfl
noncomputable def rxHit(code:Array Nat)(c:Nat):Bool:=Except.casesOn (motive:=fun X=>Bool) (Sre.inSet code c code.size 5 true {}) (fun X=>true) fun x=>x.1
noncomputable def zeY{α β ε:Type}(x:Except ε (α×β)):Option α:=Except.casesOn (motive:=fun X=>Option α) x (fun X=>none) fun x=>some x.1
theorem zdI(code:Array Nat)(c:Nat):∀(fuel i:Nat) (yes:Bool) (s t:Sre.Seen),zeY (Sre.inSet code c fuel i yes s)=zeY (Sre.inSet code c fuel i yes t)
 | 0,_,_,_,_=>rfl
 | fuel+1,i,yes,s,t=>by
  have ih:=zdI code c fuel
  have ifs:∀{p:Bool} {x y x' y':Except String (Bool×Sre.Seen)},zeY x=zeY x'→zeY y=zeY y'→zeY (if p=true then x else y)=zeY (if p=true then x' else y'):=fun {p} {_ _ _ _} a b=>by
   induction p with
   | true=>exact a
   | false=>exact b
  conv=>lhs;arg 1;whnf
  conv=>rhs;arg 1;whnf
  generalize Sre.ops[code.getD (i+0) 0]? = o
  induction o with
  | none=>exact (rfl:(none:Option Bool)=none)
  | some op=>induction op with
   | FAILURE=>exact (rfl:some (!yes)=some (!yes))
   | NEGATE=>exact ih _ _ _ _
   | LITERAL=>exact ifs rfl (ih _ _ _ _)
   | RANGE=>exact ifs rfl (ih _ _ _ _)
   | RANGE_UNI_IGNORE=>exact ifs rfl (ih _ _ _ _)
   | CATEGORY=>
    induction Sre.category (code.getD (i+1) 0) c with
    | error e=>exact (rfl:(none:Option Bool)=none)
    | ok b=>exact ifs rfl (ih _ _ _ _)
   | CHARSET=>exact ifs rfl (ih _ _ _ _)
   | BIGCHARSET=>exact ifs rfl (ih _ _ _ _)
   | _=>exact (rfl:(none:Option Bool)=none)
theorem zr4{code:Array Nat}{c:Nat}(h:rxHit code c=false)(s:Sre.Seen):∃t,Sre.inSet code c code.size 5 true s = .ok (false,t):=by
 have e:=zdI code c code.size 5 true {} s
 unfold rxHit at h
 revert h e
 induction Sre.inSet code c code.size 5 true {} with
 | error=>exact fun h=>nomatch h
 | ok x=>
  induction Sre.inSet code c code.size 5 true s with
  | error=>exact fun X e=>nomatch e
  | ok y=>exact fun h e=>⟨y.2,congrArg Except.ok (Prod.ext ((Option.some.inj e).symm.trans h) rfl)⟩
theorem zbV(m:Sre.M)(h:∀i,i<m.lim→rxHit m.code (m.text.getD i 0)=false):∀(fuel s:Nat) (seen:Sre.Seen),∃t,Sre.M.admitted m fuel s seen = .ok (none,t)
 | 0,s,seen=>⟨seen,rfl⟩
 | fuel+1,s,seen=>by
  by_cases hs:s≥m.lim
  ·exact ⟨seen,if_pos hs⟩
  ·obtain ⟨t,e⟩:=zr4 (h s (Nat.lt_of_not_le hs)) seen
   obtain ⟨u,q⟩:=zbV m h fuel (s+1) t
   refine ⟨u,(if_neg hs).trans ?_⟩
   rw [e]
   exact q
theorem zdh{m:Sre.M}{code text:Array Nat}{f s:Nat}{seen:Sre.Seen}{r:Except String (Option Nat×Sre.Seen)}(e:m.admitted f s seen=r)(hc:m.code=code)(ht:m.text=text)(hl:m.lim=text.size)
  (h:∀i,i<text.size→rxHit code (text.getD i 0)=false):∃t,r = .ok (none,t):=by
 subst hc ht
 obtain ⟨t,q⟩:=zbV m (fun i hi=>h i (hl▸hi)) f s seen
 exact ⟨t,e.symm.trans q⟩
structure SaidNo(m:Sre.M):Prop where
 out:m.outcome=none
 ans:m.answer=some false
 frs:m.frames = []
set_option tactic.hygienic true in
theorem zj4(code text:Array Nat)(groups:Nat)(hs:Sre.ops[code.getD 0 0]? = some .INFO)(h4:code.getD 2 0=4)(h:∀i,i<text.size→rxHit code (text.getD i 0)=false):
  SaidNo (Sre.forSearch code text groups 0 text.size false):=by
 unfold Sre.forSearch
 dsimp only
 split
 ·exact ⟨rfl,rfl,rfl⟩
 ·unfold Sre.M.attemptFrom
  have hf:∀m:Sre.M,m.code=code→m.hasFirstSet=true:=by
   intro m e
   unfold Sre.M.hasFirstSet
   rw [e,h4,hs]
   rfl
  rw [hf _ rfl]
  simp only [Bool.not_true,Bool.false_eq_true,if_false]
  split
  ·rename_i s seen e
   obtain ⟨t,e'⟩:=zdh e rfl rfl rfl h
   cases e'
  ·exact ⟨rfl,rfl,rfl⟩
  ·rename_i e
   obtain ⟨t,e'⟩:=zdh e rfl rfl rfl h
   cases e'
theorem zeT{m:Sre.M}(h:SaidNo m):(m.runFor 4).outcome=some .failed:=by
 obtain ⟨h1,h2,h3⟩:=h
 have e1:m.step = {m with outcome:=some (.failed)}:=by
  unfold Sre.M.step
  rw [h1,h2,h3]
  rfl
 conv=>lhs;arg 1;whnf
 rw [h1]
 refine (congrArg (fun x:Sre.M=>(x.runFor 3).outcome) e1).trans ?_
 rfl
section
variable {prog:Program} {w:World} {A:Around} {E:Value→Shared→Prop} {s:Shared}
theorem zhZ{m:Sre.M}(h:SaidNo m):∀n,reDrive (n+1) m=pure (m.runFor 4):=by
 intro n
 unfold reDrive
 dsimp only
 rw [show reTurnSteps=4 from rfl,zeT h]
 rfl
theorem zhV{l:List Nat}{f:Nat→Sem (ForInStep PUnit)}{Q:PUnit→Shared→Prop}(hf:∀i (Q:ForInStep PUnit→Shared→Prop) (s:Shared),Q (.yield PUnit.unit) s→wpAny (model prog w) A (f i) Q E s)(h:Q PUnit.unit s):
  wpAny (model prog w) A (forIn l PUnit.unit fun i X=>f i) Q E s:=by
 induction l with
 | nil=>rw [List.forIn_nil];exact wpAny_pure h
 | cons x l ih=>
  rw [List.forIn_cons]
  exact wpAny_bind (hf x _ s ih)
theorem zfW{m:Sre.M}(hm:SaidNo m){Q:Option Sre.M→Shared→Prop}(h:Q none s):wpAny (model prog w) A (reRunToEnd m) Q E s:=by
 unfold reRunToEnd
 rw [show (2:Nat)^64=18446744073709551615+1 from rfl,zhZ hm]
 refine wpAny_bind (wpAny_pure ?_)
 refine wpAny_bind (zhV (fun i Q s q=>?_) ?_)
 ·split
  ·exact wpAny_bind (wpAny_rule (wpAny_pure q))
  ·exact wpAny_pure q
 ·rw [zeT hm]
  exact wpAny_pure h
theorem search_ok{a T:Addr}{vs items:Array Value}{o:Obj}{n:Nat}{x:Str}{t:Tok}{Q:Value→Shared→Prop}(ho:s.heap.get? a=some {cls:= .type "re.Pattern",data:= .fields vs})(h6:∃u,vs.getD 6 .none = .int 0 u)(h5:vs.getD 5 .none = .ref T)(hT:s.heap.get? T=some o)(hd:o.data = .seq items n)
  (hs:Sre.ops[((items.map reRawOf).map (·.toNat)).getD 0 0]? = some .INFO) (h4:((items.map reRawOf).map (·.toNat)).getD 2 0=4) (hx:∀c∈x.cps.toList,rxHit ((items.map reRawOf).map (·.toNat)) c=false) (hz:x.cps.size<2^62) (h:Q .none s):
  wpAny (model prog w) A (call (.builtin "re.Pattern.search") [.ref a, .str x t]) Q E s:=by
 have slot:Slot "re.Pattern" "search" "re.Pattern.search" :=
  .of (owner:= "re.Pattern") (n:= "search") (by rw [typeLookup_type,builtinLookup_eq_fast];kernel_rfl) (by decide +kernel) (by decide +kernel) (by decide +kernel)
   (by first | exact .inl (by decide +kernel) | exact .inr (by decide +kernel)) (by rw [isSubtype_type];kernel_rfl)
 refine wpAny_call_entry slot ⟨_,ho,rfl⟩ zbm ?_ (zbC _ _)
 unfold Builtin.«re.Pattern.search»
 refine wpAny_bind ?_
 unfold reTarget
 dsimp only
 rw [zfX]
 refine wpAny_bind (wpAny_pure ?_)
 dsimp only
 refine wpAny_bind (wpAny_pure (wpAny_bind (wpAny_pure ?_)))
 refine wpAny_bind (wpAny_fieldsOf ho rfl ?_)
 refine wpAny_bind (m:=reTextOf _) ?_
 unfold reTextOf
 refine wpAny_bind (m:=asStr? (.str x t)) (wpAny_pure ?_)
 refine wpAny_pure ?_
 dsimp only
 obtain ⟨u,h6⟩:=h6
 rw [h6,h5]
 show wpAny _ _ (do
  reNoCollectionInside (.str x t) 0
  let items←reRawItems (.ref T)
  pure (ReTarget.mk (.ref a) (.str x t) (items.map (·.toNat)) x.cps 0 (reRawNat (vs.getD 2 .none)) (min (0:Int).toNat x.cps.size) (min (2^63-1:Int).toNat x.cps.size))) _ _ _
 refine wpAny_bind (m:=reNoCollectionInside _ _) (wpAny_pure ?_)
 refine wpAny_bind ?_
 unfold reRawItems
 refine wpAny_bind (wpAny_seqItems hT hd (wpAny_pure (wpAny_pure ?_)))
 unfold reAnswer
 dsimp only [Option.getD]
 have e1:min (0:Int).toNat x.cps.size=0:=by simp
 have e2:min (2^63-1:Int).toNat x.cps.size=x.cps.size:=by
  have:(2^63-1:Int).toNat=9223372036854775807:=by decide
  rw [this];lia
 rw [e1,e2]
 refine wpAny_bind (zfW (zj4 _ _ _ hs h4 fun i hi=>?_) ?_)
 ·refine hx _ ?_
  rw [Array.getD_eq_getD_getElem?,Array.getElem?_eq_getElem hi]
  simp
 ·exact wpAny_pure ⟨_,rfl,h⟩
end
end Mine
end
section
open PySem
namespace Mn
noncomputable def cL:= @List.casesOn
noncomputable def cE:= @PySem.Expr.casesOn
theorem aI{a b:Bool}(h:(a&&b)=true):a=true∧b=true:=Bool.and_eq_true_iff.mp h
noncomputable def wB:= @wpAny_bind
noncomputable def wP:= @wpAny_pure
noncomputable def wH:= @wpAny_holding
noncomputable def lT:= @Nat.le_trans
noncomputable def oD:= @of_decide_eq_true
noncomputable def sI:= @Option.some.inj
noncomputable def lL:= @Nat.lt_of_lt_of_le
noncomputable def lE:= @Nat.lt_of_le_of_lt
noncomputable def jL:= @Nat.le_of_ble_eq_true
noncomputable def mG:= @List.mem_of_getElem?
noncomputable def pS:= @Heap.get?_push_of_some
noncomputable def pZ:= @Heap.get?_push_size
noncomputable def fT:= @Bool.eq_false_or_eq_true
theorem iE{α:Type _}{x:Option α}(h:x.isSome=true):∃a,x=some a:=Option.isSome_iff_exists.mp h
theorem bE{α β:Type _}{o:Option α}{f:α→Option β}{b:β}(h:o.bind f=some b):∃a,o=some a∧f a=some b:=Option.bind_eq_some_iff.mp h
theorem jE{α β:Type _}{o:Option α}{f:α→β}{b:β}(h:o.map f=some b):∃a,o=some a∧f a=b:=Option.map_eq_some_iff.mp h
theorem gE{α:Type _}{l:List α}{i:Nat}{a:α}(e:l[i]? = some a):∃h:i<l.length,l[i]=a:=List.getElem?_eq_some_iff.mp e
noncomputable def mM:= @List.mem_cons_of_mem
noncomputable def mS:= @List.mem_cons_self
noncomputable def lO:= @Nat.le_of_lt
noncomputable def jD:= @Nat.add_le_add
noncomputable def rL:= @Nat.le_refl
theorem mR{α β:Type _}{b:β}{f:α→β}{l:List α}(h:∃a,a∈l∧f a=b):b∈l.map f:=List.mem_map.mpr h
theorem mP{α β:Type _}{b:β}{f:α→β}{l:List α}(h:b∈l.map f):∃a,a∈l∧f a=b:=List.mem_map.mp h
theorem eI{α:Type _}{l:List α}(h:l.isEmpty=true):l = []:=List.isEmpty_iff.mp h
noncomputable def mT:= @Nat.mod_lt
theorem jN{α:Type _}{o:Option α}(h:o.isNone=true):o=none:=Option.isNone_iff_eq_none.mp h
noncomputable def dT:= @decide_eq_true
noncomputable def qB:= @Nat.eq_of_beq_eq_true
theorem cP{α:Type _}{a b:α}{l:List α}(h:a∈b :: l):a=b∨a∈l:=List.mem_cons.mp h
theorem aT{α:Type _}{p:α→Bool}{l:List α}(h:l.all p=true):∀x∈l,p x=true:=List.all_eq_true.mp h
noncomputable def sS:= @Nat.lt_succ_self
noncomputable def zN:= @Nat.not_lt_zero
noncomputable def pR:= @Nat.pow_le_pow_right
end Mn
namespace Mn
theorem upd_size(h:Heap)(a:Addr)(f:Obj→Obj):(h.update a f).objs.size=h.objs.size:=Mine.upd_size h a f
theorem wpAny_sz{α:Type}{M:Model}{A:Around}{E:Value→Shared→Prop}{s:Shared}{t:Sem α}{Q:α→Shared→Prop}(h:wpAny M A t (fun a s'=>s.heap.objs.size≤s'.heap.objs.size→Q a s') E s):wpAny M A t Q E s:=Mine.wpAny_sz h
end Mn
end
section
open PySem PySem.W PyProof.Rows PySem.Calls
namespace Mn
inductive BI where
 | len | ord | chr | divmod | sum | min | max | sorted | iter
noncomputable def BI.id:BI→String
 | .len=> "len" | .ord=> "ord" | .chr=> "chr" | .divmod=> "divmod" | .sum=> "sum" | .min=> "min" | .max=> "max" | .sorted=> "sorted" | .iter=> "iter"
inductive TY where
 | int | str | range | list | set | enumerate | reversed | type
noncomputable def TY.id:TY→String
 | .int=> "int" | .str=> "str" | .range=> "range" | .list=> "list" | .set=> "set" | .enumerate=> "enumerate" | .reversed=> "reversed" | .type=> "type"
inductive SV where
 | none
 | bool (b:Bool)
 | int (i:Int)
 | str (s:List Nat)
inductive AV where
 | none
 | bool (b:Bool)
 | int (i:Int)
 | str (s:List Nat)
 | ref (n:Nat)
 | glob (a:Nat)
 | bi (m:BI)
 | ty (m:TY)
 | tup (xs:List SV)
 | lst (xs:List SV)
 | cod
structure FDat where
 name:Str
 params:Arguments
 body:List Stmt
 scope:Scope
 tab:Option (Nat×Nat×Nat)
inductive AO where
 | list (f:Bool) (xs:List AV)
 | dict (f:Bool) (es:List (List Nat×AV))
 | cell (v:Option AV)
 | inst (C:Nat) (d:Nat)
 | set (xs:List SV)
 | clo (fd:FDat) (cl:List (Str×Nat))
 | bound (self:AV) (f:Nat)
 | citer (f:AV) (sent:AV) (ended:Bool)
 | range (a b c:Int)
 | items (d:Nat)
 | liter (l:AV) (i:Nat)
 | siter (s:List Nat) (i:Nat)
 | riter (x left step:Int)
 | enumr (it:Nat) (i:Nat)
 | revit (l:Nat) (i:Int)
 | diter (d:Nat)
 | frame (l:List (Str×AV))
 | flist (vs:Array Value) (n:Nat) (xs:List Int)
 | other
noncomputable def strOf(s:List Nat):Str:=⟨s.toArray⟩
inductive Rs{α β:Type}(R:α→β→Prop):List α→List β→Prop
 | nil:Rs R [] []
 | cons {x y xs ys}:R x y→Rs R xs ys→Rs R (x :: xs) (y :: ys)
section
variable {α β:Type} {R S:α→β→Prop} {xs xs':List α} {ys ys':List β}
theorem Rs.imp(i:∀x y,R x y→S x y)(h:Rs R xs ys):Rs S xs ys:=h.rec .nil fun a X k=> .cons (i _ _ a) k
theorem Rs.len(h:Rs R xs ys):xs.length=ys.length:=h.rec rfl fun X X k=>congrArg Nat.succ k
theorem Rs.app(h:Rs R xs ys)(k:Rs R xs' ys'):Rs R (xs++xs') (ys++ys'):=h.rec k fun a X k=> .cons a k
theorem Rs.get(h:Rs R xs ys):∀(i:Nat) (x:α),xs[i]? = some x→∃y,ys[i]? = some y∧R x y:=by
 induction h with
 | nil=>exact fun X X e=>nomatch e
 | cons a X k=>exact fun i=>match i with
  | 0=>fun X e=>⟨_,rfl,sI e▸a⟩
  | i+1=>k i
end
structure Wd where
 pl:Nat→Addr
 fz:Addr→Option Obj
noncomputable def zbY(k:String)(vs:Array Value)(n:Nat):Obj:={cls:= .type k,data:= .seq vs n}
def zgr(ob:Obj):Prop:=∃vs q t,ob.cls = .type "code" ∧ob.data = .fields vs∧vs[1]? = some (.str q t)
def SR:SV→Value→Prop
 | .none,v=>v = .none
 | .bool b,v=>v = .bool b
 | .int i,v=>∃t,v = .int i t
 | .str s,v=>∃t,v = .str (strOf s) t
def VR(W:Wd)(n:Nat):AV→Value→Prop
 | .none,v=>v = .none
 | .bool b,v=>v = .bool b
 | .int i,v=>∃t,v = .int i t
 | .str s,v=>∃t,v = .str (strOf s) t
 | .ref k,v=>k<n∧v = .ref (W.pl k)
 | .glob a,v=>v = .ref a
 | .bi m,v=>v = .builtin m.id
 | .ty m,v=>v = .type m.id
 | .tup xs,v=>∃a vs k,v = .ref a∧W.fz a=some (zbY "tuple" vs k)∧Rs SR xs vs.toList
 | .lst xs,v=>∃a vs k,v = .ref a∧W.fz a=some (zbY "list" vs k)∧Rs SR xs vs.toList
 | .cod,v=>∃a ob,v = .ref a∧W.fz a=some ob∧zgr ob
structure Le(n:Nat)(W:Wd)(n':Nat)(W':Wd):Prop where
 le:n≤n'
 pl:∀k,k<n→W'.pl k=W.pl k
 fz:∀a ob,W.fz a=some ob→W'.fz a=some ob
section
variable {n n' n₁:Nat} {W W' W₁:Wd}
theorem Le.refl:Le n W n W:=⟨rL _,fun X X=>rfl,fun X X e=>e⟩
theorem Le.trans(h:Le n W n₁ W₁)(k:Le n₁ W₁ n' W'):Le n W n' W':=⟨lT h.le k.le,fun i q=>(k.pl i (lL q h.le)).trans (h.pl i q),fun a o e=>k.fz a o (h.fz a o e)⟩
theorem Le.zero(h:Le n W n' W'):Le 0 W 0 W':=⟨rL _,fun X q=>absurd q (zN _),h.fz⟩
theorem VR.up(L:Le n W n' W'){x:AV}{v:Value}(h:VR W n x v):VR W' n' x v:=by
 induction x with
 | ref k=>exact ⟨lL h.1 L.le,h.2.trans (congrArg Value.ref (L.pl k h.1).symm)⟩
 | tup _ | lst _=>exact h.imp fun X=> .imp fun X=> .imp fun X=> .imp_right (.imp_left (L.fz _ _))
 | cod=>exact h.imp fun X=> .imp fun X=> .imp_right (.imp_left (L.fz _ _))
 | _=>exact h
theorem VR.ups{xs:List AV}{vs:List Value}(L:Le n W n' W')(h:Rs (VR W n) xs vs):Rs (VR W' n') xs vs:=h.imp fun X X=>VR.up L
end
noncomputable def lim(f:Bool)(n:Nat):Nat:=bif f then n else 0
theorem Le.lim{n n':Nat}{W W':Wd}(L:Le n W n' W'):∀f,Le (lim f n) W (lim f n') W'
 | true=>L
 | false=>L.zero
theorem zco{n:Nat}{W:Wd}:∀f,Le (lim f n) W n W
 | true=> .refl
 | false=>⟨Nat.zero_le _,fun X q=>absurd q (zN _),fun X X e=>e⟩
structure Cx where
 prog:Program
 w:World
 B:Heap
 K:Frag
 tabs:List Addr
 tinfo:Addr→Nat×Nat
 G:Addr
 os:OsState
def ER(w:World)(R:AV→Value→Prop)(e:List Nat×AV)(d:DictEntry):Prop:=∃tk v,d = ⟨PyData.keyHash w.params (strOf e.1), .str (strOf e.1) tk,v⟩∧R e.2 v
def ObjIs(c:Cx)(W:Wd)(n:Nat)(ob:Obj):AO→Prop
 | .list f xs=>∃vs k,ob=zbY "list" vs k∧Rs (VR W (lim f n)) xs vs.toList
 | .dict f es=>∃ds k,ob = {cls:= .type "dict",data:= .dict ds k}∧Rs (ER c.w (VR W (lim f n))) es ds.toList∧(es.map (·.1)).Nodup∧(es = []→k=0)
 | .cell none=>ob.data = .cell none
 | .cell (some x)=>∃v,ob.data = .cell (some v)∧VR W n x v
 | .inst C d=>d<n∧ob=instObj C (W.pl d)
 | .set xs=>∃es ep t,ob = {cls:= .type "set",data:= .set es ep t}∧t.fits es.size=true∧(∃ys,List.Perm ys xs∧Rs SR ys (es.toList.map (·.2)))∧(∀e∈es.toList,(∃i u,e.2 = .int i u∧e.1=hashInt i)∨(∃z u,e.2 = .str z u∧e.1=hashStr c.w z))∧(c.w.params.followText "set-order" =false→t.led=true)∧(t.plain=false∨es.size≤1)
 | .clo fd cl=>∃fd' v,ob = {cls:= .type "function",data:= .func fd'}∧fd'.code=v∧VR W n .cod v∧(∀x k,cl.lookup x=some k→k<n∧fd'.closure.lookup x=some (W.pl k))∧
   fd'.params=fd.params∧fd'.body = .stmts fd.body∧fd'.scope=fd.scope∧fd'.globals=c.G∧fd'.builtins=0∧fd'.defaults = .none∧fd'.kwdefaults = .none
 | .bound self f=>∃v,ob = {cls:= .type "method",data:= .fields #[.ref f,v]}∧VR W n self v
 | .citer f s e=>∃v u,ob = {cls:= .type "callable_iterator",data:= .fields #[v,u, .bool e]}∧VR W n f v∧VR W n s u
 | .range a b k=>∃t u v,ob = {cls:= .type "range",data:= .fields #[.int a t, .int b u, .int k v]}
 | .items d=>d<n∧ob = {cls:= .type "dict_items",data:= .fields #[.ref (W.pl d)]}
 | .liter l i=>∃v,VR W n l v∧ob.cls = .type "list_iterator" ∧ob.data = .fields #[v, .int i 0]
 | .siter s i=>∃t,ob.cls = .type (strIterType (strOf s))∧ob.data = .fields #[.str (strOf s) t, .int i 0]
 | .riter x l k=>ob = {cls:= .type "range_iterator",data:= .fields #[rawInt x,rawInt l,rawInt k]}
 | .enumr j i=>∃old,j<n∧ob = {cls:= .type "enumerate",data:= .fields #[.none, .bool false, .ref (W.pl j),rawInt i, .none,old]}
 | .diter d=>d<n∧ob = {cls:= .type "dict_itemiterator",data:= .fields #[.none, .bool false, .ref (W.pl d), .int 0 0, .int 0 0, .int 0 0, .none, .none]}
 | .revit l i=>l<n∧ob.cls = .type "list_reverseiterator" ∧ob.data = .fields #[.ref (W.pl l), .int i 0]
 | .frame l=>∃es k,ob.data = .dict es k∧StrKeys es∧∀x v,l.lookup x=some v→∃u,nsFind es x=some u∧VR W n v u
 | .flist vs k xs=>ob=zbY "list" vs k∧Rs (VR W 0) (xs.map .int) vs.toList
 | .other=>True
section
variable {c:Cx} {n n':Nat} {W W':Wd} {ob:Obj}
theorem ER.up{w:World}{R S:AV→Value→Prop}(i:∀x v,R x v→S x v){e:List Nat×AV}{d:DictEntry}(h:ER w R e d):ER w S e d:=h.imp fun X=> .imp fun X=> .imp_right (i _ _)
theorem ObjIs.up(L:Le n W n' W'){o:AO}(h:ObjIs c W n ob o):ObjIs c W' n' ob o:=by
 induction o with
 | list f=>exact h.imp fun X=> .imp fun X=> .imp_right (VR.ups (L.lim f))
 | dict f=>exact h.imp fun X=> .imp fun X=> .imp_right (.imp_left (.imp fun X X=>ER.up fun X X=>VR.up (L.lim f)))
 | cell v=>induction v with
  | none=>exact h
  | some=>exact h.imp fun X=> .imp_right (.up L)
 | inst | items | diter | revit=>exact ⟨lL h.1 L.le,(L.pl _ h.1).symm▸h.2⟩
 | clo=>exact h.elim fun f h=>h.elim fun v h=>⟨f,v,h.1,h.2.1,h.2.2.1.up L,fun x k e=>⟨lL (h.2.2.2.1 x k e).1 L.le,(L.pl _ (h.2.2.2.1 x k e).1).symm▸(h.2.2.2.1 x k e).2⟩,h.2.2.2.2⟩
 | bound=>exact h.imp fun X=> .imp_right (.up L)
 | citer=>exact h.imp fun X=> .imp fun X=> .imp_right (.imp (.up L) (.up L))
 | liter=>exact h.imp fun X=> .imp_left (.up L)
 | enumr j=>exact h.elim fun o h=>⟨o,lL h.1 L.le,(L.pl _ h.1).symm▸h.2⟩
 | frame=>exact h.imp fun X=> .imp fun X=> .imp_right (.imp_right fun h x v e=>(h x v e).imp fun X=> .imp_right (.up L))
 | flist=>exact h.imp_right (VR.ups L.zero)
 | _=>exact h
end
structure Hp where
 nx:Nat
 at_:Nat→AO
noncomputable def upd{α:Type}(f:Nat→α)(n:Nat)(a:α):Nat→α:=fun k=>bif Nat.beq k n then a else f k
theorem upd_self{α:Type}{f:Nat→α}{n:Nat}{a:α}:upd f n a n=a:=by unfold upd;rw [Nat.beq_refl];rfl
theorem zae{α:Type}{f:Nat→α}{n k:Nat}{a:α}(h:k≠n):upd f n a k=f k:=by
 unfold upd
 induction e:Nat.beq k n with
 | true=>exact absurd (qB e) h
 | false=>rfl
def Hp.set(h:Hp)(n:Nat)(o:AO):Hp:=⟨h.nx,upd h.at_ n o⟩
def Hp.new(h:Hp)(o:AO):Hp:=⟨h.nx+1,upd h.at_ h.nx o⟩
theorem no{α:Type}{x:α}{P:Prop}(h:(none:Option α)=some x):P:=nomatch h
noncomputable def AV.bool?(o:AV):Option (Bool):=AV.casesOn (motive:=fun X=>Option (Bool)) o Option.none (fun a=>Option.some a) (fun X=>Option.none) (fun X=>Option.none) (fun X=>Option.none) (fun X=>Option.none) (fun X=>Option.none) (fun X=>Option.none) (fun X=>Option.none) (fun X=>Option.none) Option.none
theorem AV.bool?_is{o:AV}{l:Bool}:o.bool? = some l→o = .bool l:=AV.casesOn (motive:=fun o=>o.bool? = some l→o = .bool l) o no (fun a e=>(sI e)▸rfl) (fun X=>no) (fun X=>no) (fun X=>no) (fun X=>no) (fun X=>no) (fun X=>no) (fun X=>no) (fun X=>no) no
noncomputable def AV.int?(o:AV):Option (Int):=AV.casesOn (motive:=fun X=>Option (Int)) o Option.none (fun X=>Option.none) (fun a=>Option.some a) (fun X=>Option.none) (fun X=>Option.none) (fun X=>Option.none) (fun X=>Option.none) (fun X=>Option.none) (fun X=>Option.none) (fun X=>Option.none) Option.none
theorem AV.int?_is{o:AV}{l:Int}:o.int? = some l→o = .int l:=AV.casesOn (motive:=fun o=>o.int? = some l→o = .int l) o no (fun X=>no) (fun a e=>(sI e)▸rfl) (fun X=>no) (fun X=>no) (fun X=>no) (fun X=>no) (fun X=>no) (fun X=>no) (fun X=>no) no
noncomputable def AV.str?(o:AV):Option ((List Nat)):=AV.casesOn (motive:=fun X=>Option ((List Nat))) o Option.none (fun X=>Option.none) (fun X=>Option.none) (fun a=>Option.some a) (fun X=>Option.none) (fun X=>Option.none) (fun X=>Option.none) (fun X=>Option.none) (fun X=>Option.none) (fun X=>Option.none) Option.none
theorem AV.str?_is{o:AV}{l:(List Nat)}:o.str? = some l→o = .str l:=AV.casesOn (motive:=fun o=>o.str? = some l→o = .str l) o no (fun X=>no) (fun X=>no) (fun a e=>(sI e)▸rfl) (fun X=>no) (fun X=>no) (fun X=>no) (fun X=>no) (fun X=>no) (fun X=>no) no
noncomputable def AV.ref?(o:AV):Option (Nat):=AV.casesOn (motive:=fun X=>Option (Nat)) o Option.none (fun X=>Option.none) (fun X=>Option.none) (fun X=>Option.none) (fun a=>Option.some a) (fun X=>Option.none) (fun X=>Option.none) (fun X=>Option.none) (fun X=>Option.none) (fun X=>Option.none) Option.none
theorem AV.ref?_is{o:AV}{l:Nat}:o.ref? = some l→o = .ref l:=AV.casesOn (motive:=fun o=>o.ref? = some l→o = .ref l) o no (fun X=>no) (fun X=>no) (fun X=>no) (fun a e=>(sI e)▸rfl) (fun X=>no) (fun X=>no) (fun X=>no) (fun X=>no) (fun X=>no) no
noncomputable def AV.glob?(o:AV):Option (Nat):=AV.casesOn (motive:=fun X=>Option (Nat)) o Option.none (fun X=>Option.none) (fun X=>Option.none) (fun X=>Option.none) (fun X=>Option.none) (fun a=>Option.some a) (fun X=>Option.none) (fun X=>Option.none) (fun X=>Option.none) (fun X=>Option.none) Option.none
theorem AV.glob?_is{o:AV}{l:Nat}:o.glob? = some l→o = .glob l:=AV.casesOn (motive:=fun o=>o.glob? = some l→o = .glob l) o no (fun X=>no) (fun X=>no) (fun X=>no) (fun X=>no) (fun a e=>(sI e)▸rfl) (fun X=>no) (fun X=>no) (fun X=>no) (fun X=>no) no
noncomputable def AV.bi?(o:AV):Option (BI):=AV.casesOn (motive:=fun X=>Option (BI)) o Option.none (fun X=>Option.none) (fun X=>Option.none) (fun X=>Option.none) (fun X=>Option.none) (fun X=>Option.none) (fun a=>Option.some a) (fun X=>Option.none) (fun X=>Option.none) (fun X=>Option.none) Option.none
theorem AV.bi?_is{o:AV}{l:BI}:o.bi? = some l→o = .bi l:=AV.casesOn (motive:=fun o=>o.bi? = some l→o = .bi l) o no (fun X=>no) (fun X=>no) (fun X=>no) (fun X=>no) (fun X=>no) (fun a e=>(sI e)▸rfl) (fun X=>no) (fun X=>no) (fun X=>no) no
noncomputable def AV.ty?(o:AV):Option (TY):=AV.casesOn (motive:=fun X=>Option (TY)) o Option.none (fun X=>Option.none) (fun X=>Option.none) (fun X=>Option.none) (fun X=>Option.none) (fun X=>Option.none) (fun X=>Option.none) (fun a=>Option.some a) (fun X=>Option.none) (fun X=>Option.none) Option.none
theorem AV.ty?_is{o:AV}{l:TY}:o.ty? = some l→o = .ty l:=AV.casesOn (motive:=fun o=>o.ty? = some l→o = .ty l) o no (fun X=>no) (fun X=>no) (fun X=>no) (fun X=>no) (fun X=>no) (fun X=>no) (fun a e=>(sI e)▸rfl) (fun X=>no) (fun X=>no) no
noncomputable def AV.tup?(o:AV):Option ((List SV)):=AV.casesOn (motive:=fun X=>Option ((List SV))) o Option.none (fun X=>Option.none) (fun X=>Option.none) (fun X=>Option.none) (fun X=>Option.none) (fun X=>Option.none) (fun X=>Option.none) (fun X=>Option.none) (fun a=>Option.some a) (fun X=>Option.none) Option.none
theorem AV.tup?_is{o:AV}{l:(List SV)}:o.tup? = some l→o = .tup l:=AV.casesOn (motive:=fun o=>o.tup? = some l→o = .tup l) o no (fun X=>no) (fun X=>no) (fun X=>no) (fun X=>no) (fun X=>no) (fun X=>no) (fun X=>no) (fun a e=>(sI e)▸rfl) (fun X=>no) no
noncomputable def AO.list?(o:AO):Option (Bool×(List AV)):=AO.casesOn (motive:=fun X=>Option (Bool×(List AV))) o (fun a b=>Option.some (a,b)) (fun X X=>Option.none) (fun X=>Option.none) (fun X X=>Option.none) (fun X=>Option.none) (fun X X=>Option.none) (fun X X=>Option.none) (fun X X X=>Option.none) (fun X X X=>Option.none) (fun X=>Option.none) (fun X X=>Option.none) (fun X X=>Option.none) (fun X X X=>Option.none) (fun X X=>Option.none) (fun X X=>Option.none) (fun X=>Option.none) (fun X=>Option.none) (fun X X X=>Option.none) Option.none
theorem AO.list?_is{o:AO}{l:Bool×(List AV)}:o.list? = some l→o = .list l.1 l.2:=AO.casesOn (motive:=fun o=>o.list? = some l→o = .list l.1 l.2) o (fun a b e=>(sI e)▸rfl) (fun X X=>no) (fun X=>no) (fun X X=>no) (fun X=>no) (fun X X=>no) (fun X X=>no) (fun X X X=>no) (fun X X X=>no) (fun X=>no) (fun X X=>no) (fun X X=>no) (fun X X X=>no) (fun X X=>no) (fun X X=>no) (fun X=>no) (fun X=>no) (fun X X X=>no) no
noncomputable def AO.dict?(o:AO):Option (Bool×(List (List Nat×AV))):=AO.casesOn (motive:=fun X=>Option (Bool×(List (List Nat×AV)))) o (fun X X=>Option.none) (fun a b=>Option.some (a,b)) (fun X=>Option.none) (fun X X=>Option.none) (fun X=>Option.none) (fun X X=>Option.none) (fun X X=>Option.none) (fun X X X=>Option.none) (fun X X X=>Option.none) (fun X=>Option.none) (fun X X=>Option.none) (fun X X=>Option.none) (fun X X X=>Option.none) (fun X X=>Option.none) (fun X X=>Option.none) (fun X=>Option.none) (fun X=>Option.none) (fun X X X=>Option.none) Option.none
theorem AO.dict?_is{o:AO}{l:Bool×(List (List Nat×AV))}:o.dict? = some l→o = .dict l.1 l.2:=AO.casesOn (motive:=fun o=>o.dict? = some l→o = .dict l.1 l.2) o (fun X X=>no) (fun a b e=>(sI e)▸rfl) (fun X=>no) (fun X X=>no) (fun X=>no) (fun X X=>no) (fun X X=>no) (fun X X X=>no) (fun X X X=>no) (fun X=>no) (fun X X=>no) (fun X X=>no) (fun X X X=>no) (fun X X=>no) (fun X X=>no) (fun X=>no) (fun X=>no) (fun X X X=>no) no
noncomputable def AO.cell?(o:AO):Option ((Option AV)):=AO.casesOn (motive:=fun X=>Option ((Option AV))) o (fun X X=>Option.none) (fun X X=>Option.none) (fun a=>Option.some a) (fun X X=>Option.none) (fun X=>Option.none) (fun X X=>Option.none) (fun X X=>Option.none) (fun X X X=>Option.none) (fun X X X=>Option.none) (fun X=>Option.none) (fun X X=>Option.none) (fun X X=>Option.none) (fun X X X=>Option.none) (fun X X=>Option.none) (fun X X=>Option.none) (fun X=>Option.none) (fun X=>Option.none) (fun X X X=>Option.none) Option.none
theorem AO.cell?_is{o:AO}{l:(Option AV)}:o.cell? = some l→o = .cell l:=AO.casesOn (motive:=fun o=>o.cell? = some l→o = .cell l) o (fun X X=>no) (fun X X=>no) (fun a e=>(sI e)▸rfl) (fun X X=>no) (fun X=>no) (fun X X=>no) (fun X X=>no) (fun X X X=>no) (fun X X X=>no) (fun X=>no) (fun X X=>no) (fun X X=>no) (fun X X X=>no) (fun X X=>no) (fun X X=>no) (fun X=>no) (fun X=>no) (fun X X X=>no) no
noncomputable def AO.inst?(o:AO):Option (Nat×Nat):=AO.casesOn (motive:=fun X=>Option (Nat×Nat)) o (fun X X=>Option.none) (fun X X=>Option.none) (fun X=>Option.none) (fun a b=>Option.some (a,b)) (fun X=>Option.none) (fun X X=>Option.none) (fun X X=>Option.none) (fun X X X=>Option.none) (fun X X X=>Option.none) (fun X=>Option.none) (fun X X=>Option.none) (fun X X=>Option.none) (fun X X X=>Option.none) (fun X X=>Option.none) (fun X X=>Option.none) (fun X=>Option.none) (fun X=>Option.none) (fun X X X=>Option.none) Option.none
theorem AO.inst?_is{o:AO}{l:Nat×Nat}:o.inst? = some l→o = .inst l.1 l.2:=AO.casesOn (motive:=fun o=>o.inst? = some l→o = .inst l.1 l.2) o (fun X X=>no) (fun X X=>no) (fun X=>no) (fun a b e=>(sI e)▸rfl) (fun X=>no) (fun X X=>no) (fun X X=>no) (fun X X X=>no) (fun X X X=>no) (fun X=>no) (fun X X=>no) (fun X X=>no) (fun X X X=>no) (fun X X=>no) (fun X X=>no) (fun X=>no) (fun X=>no) (fun X X X=>no) no
noncomputable def AO.set?(o:AO):Option ((List SV)):=AO.casesOn (motive:=fun X=>Option ((List SV))) o (fun X X=>Option.none) (fun X X=>Option.none) (fun X=>Option.none) (fun X X=>Option.none) (fun a=>Option.some a) (fun X X=>Option.none) (fun X X=>Option.none) (fun X X X=>Option.none) (fun X X X=>Option.none) (fun X=>Option.none) (fun X X=>Option.none) (fun X X=>Option.none) (fun X X X=>Option.none) (fun X X=>Option.none) (fun X X=>Option.none) (fun X=>Option.none) (fun X=>Option.none) (fun X X X=>Option.none) Option.none
theorem AO.set?_is{o:AO}{l:(List SV)}:o.set? = some l→o = .set l:=AO.casesOn (motive:=fun o=>o.set? = some l→o = .set l) o (fun X X=>no) (fun X X=>no) (fun X=>no) (fun X X=>no) (fun a e=>(sI e)▸rfl) (fun X X=>no) (fun X X=>no) (fun X X X=>no) (fun X X X=>no) (fun X=>no) (fun X X=>no) (fun X X=>no) (fun X X X=>no) (fun X X=>no) (fun X X=>no) (fun X=>no) (fun X=>no) (fun X X X=>no) no
noncomputable def AO.clo?(o:AO):Option (FDat×(List (Str×Nat))):=AO.casesOn (motive:=fun X=>Option (FDat×(List (Str×Nat)))) o (fun X X=>Option.none) (fun X X=>Option.none) (fun X=>Option.none) (fun X X=>Option.none) (fun X=>Option.none) (fun a b=>Option.some (a,b)) (fun X X=>Option.none) (fun X X X=>Option.none) (fun X X X=>Option.none) (fun X=>Option.none) (fun X X=>Option.none) (fun X X=>Option.none) (fun X X X=>Option.none) (fun X X=>Option.none) (fun X X=>Option.none) (fun X=>Option.none) (fun X=>Option.none) (fun X X X=>Option.none) Option.none
theorem AO.clo?_is{o:AO}{l:FDat×(List (Str×Nat))}:o.clo? = some l→o = .clo l.1 l.2:=AO.casesOn (motive:=fun o=>o.clo? = some l→o = .clo l.1 l.2) o (fun X X=>no) (fun X X=>no) (fun X=>no) (fun X X=>no) (fun X=>no) (fun a b e=>(sI e)▸rfl) (fun X X=>no) (fun X X X=>no) (fun X X X=>no) (fun X=>no) (fun X X=>no) (fun X X=>no) (fun X X X=>no) (fun X X=>no) (fun X X=>no) (fun X=>no) (fun X=>no) (fun X X X=>no) no
noncomputable def AO.bound?(o:AO):Option (AV×Nat):=AO.casesOn (motive:=fun X=>Option (AV×Nat)) o (fun X X=>Option.none) (fun X X=>Option.none) (fun X=>Option.none) (fun X X=>Option.none) (fun X=>Option.none) (fun X X=>Option.none) (fun a b=>Option.some (a,b)) (fun X X X=>Option.none) (fun X X X=>Option.none) (fun X=>Option.none) (fun X X=>Option.none) (fun X X=>Option.none) (fun X X X=>Option.none) (fun X X=>Option.none) (fun X X=>Option.none) (fun X=>Option.none) (fun X=>Option.none) (fun X X X=>Option.none) Option.none
theorem AO.bound?_is{o:AO}{l:AV×Nat}:o.bound? = some l→o = .bound l.1 l.2:=AO.casesOn (motive:=fun o=>o.bound? = some l→o = .bound l.1 l.2) o (fun X X=>no) (fun X X=>no) (fun X=>no) (fun X X=>no) (fun X=>no) (fun X X=>no) (fun a b e=>(sI e)▸rfl) (fun X X X=>no) (fun X X X=>no) (fun X=>no) (fun X X=>no) (fun X X=>no) (fun X X X=>no) (fun X X=>no) (fun X X=>no) (fun X=>no) (fun X=>no) (fun X X X=>no) no
noncomputable def AO.frame?(o:AO):Option ((List (Str×AV))):=AO.casesOn (motive:=fun X=>Option ((List (Str×AV)))) o (fun X X=>Option.none) (fun X X=>Option.none) (fun X=>Option.none) (fun X X=>Option.none) (fun X=>Option.none) (fun X X=>Option.none) (fun X X=>Option.none) (fun X X X=>Option.none) (fun X X X=>Option.none) (fun X=>Option.none) (fun X X=>Option.none) (fun X X=>Option.none) (fun X X X=>Option.none) (fun X X=>Option.none) (fun X X=>Option.none) (fun X=>Option.none) (fun a=>Option.some a) (fun X X X=>Option.none) Option.none
theorem AO.frame?_is{o:AO}{l:(List (Str×AV))}:o.frame? = some l→o = .frame l:=AO.casesOn (motive:=fun o=>o.frame? = some l→o = .frame l) o (fun X X=>no) (fun X X=>no) (fun X=>no) (fun X X=>no) (fun X=>no) (fun X X=>no) (fun X X=>no) (fun X X X=>no) (fun X X X=>no) (fun X=>no) (fun X X=>no) (fun X X=>no) (fun X X X=>no) (fun X X=>no) (fun X X=>no) (fun X=>no) (fun a e=>(sI e)▸rfl) (fun X X X=>no) no
noncomputable def AO.live(o:AO):Bool:=AO.casesOn (motive:=fun X=>Bool) o (fun X X=>true) (fun X X=>true) (fun X=>true) (fun X X=>true) (fun X=>true) (fun X X=>true) (fun X X=>true) (fun X X X=>true) (fun X X X=>true) (fun X=>true) (fun X X=>true) (fun X X=>true) (fun X X X=>true) (fun X X=>true) (fun X X=>true) (fun X=>true) (fun X=>true) (fun X X X=>true) false
def OAt(c:Cx)(W:Wd)(n:Nat)(s:Shared)(a:Addr)(o:AO):Prop:=o.live=true→c.B.get? a=none∧∃ob,s.heap.get? a=some ob∧ObjIs c W n ob o
def ztV(c:Cx)(W:Wd)(s:Shared)(t:Addr):Prop:=s.heap.get? t=some {cls:= .none,data:= .fields #[]}∨
 ∃a ob,s.heap.get? t=some {cls:= .none,data:= .fields #[rawInt (c.tinfo t).1,rawInt (c.tinfo t).2, .ref a]}∧W.fz a=some ob∧zgr ob
structure Amb(c:Cx)(W:Wd)(s:Shared):Prop where
 base:∀b o,c.B.get? b=some o→b∉c.tabs→s.heap.get? b=some o
 tab:∀t,t∈c.tabs→c.B.get? t≠none∧ztV c W s t
 gens:s.gens = #[]
 os:s.os=c.os
structure Rel(c:Cx)(W:Wd)(h:Hp)(s:Shared):Prop where
 at_:∀n,n<h.nx→OAt c W h.nx s (W.pl n) (h.at_ n)
 apart:∀m n,m<h.nx→n<h.nx→(h.at_ m).live=true→(h.at_ n).live=true→W.pl m=W.pl n→m=n
 fz:∀a ob,W.fz a=some ob→c.B.get? a=none∧s.heap.get? a=some ob∧∀n,n<h.nx→(h.at_ n).live=true→W.pl n≠a
 amb:Amb c W s
structure Step(c:Cx)(n:Nat)(W:Wd)(s:Shared)(W':Wd)(h':Hp)(s':Shared):Prop where
 rel:Rel c W' h' s'
 le:Le n W h'.nx W'
 size:s.heap.objs.size≤s'.heap.objs.size
 fresh:∀k,n≤k→k<h'.nx→s.heap.objs.size≤W'.pl k
 freshF:∀a ob,W'.fz a=some ob→W.fz a=some ob∨s.heap.objs.size≤a∨∃k,k<n∧W.pl k=a
 kept:∀b o,s.heap.get? b=some o→(∀k,k<n→W.pl k≠b)→b∉c.tabs→s'.heap.get? b=some o
section
variable {c:Cx} {n:Nat} {W W' W₁:Wd} {h h' h₁:Hp} {s s' s₁:Shared}
theorem Step.refl(R:Rel c W h s):Step c h.nx W s W h s:=⟨R, .refl,rL _,fun X a b=>absurd a (Nat.not_le_of_lt b),fun X X e=> .inl e,fun X X e X X=>e⟩
theorem Step.trans(S:Step c n W s W₁ h₁ s₁)(T:Step c h₁.nx W₁ s₁ W' h' s'):Step c n W s W' h' s':=
 have far:∀k,n≤k→k<h₁.nx→s.heap.objs.size≤W₁.pl k:=S.fresh
 ⟨T.rel,S.le.trans T.le,lT S.size T.size,
 fun k a b=>(Nat.lt_or_ge k h₁.nx).elim (fun q=>T.le.pl k q▸far k a q) fun q=>lT S.size (T.fresh k q b),
 fun a ob e=>(T.freshF a ob e).elim (S.freshF a ob) fun q=>q.elim (fun q=> .inr (.inl (lT S.size q))) fun ⟨k,q,e⟩=>(Nat.lt_or_ge k n).elim (fun z=> .inr (.inr ⟨k,z,(S.le.pl k z).symm.trans e⟩)) fun z=> .inr (.inl (e▸far k z q)),
 fun b o e hp ht=>T.kept b o (S.kept b o e hp ht) (fun k q z=>(Nat.lt_or_ge k n).elim (fun y=>hp k y ((S.le.pl k y).symm.trans z)) fun y=>Nat.not_le_of_lt (Heap.lt_size e) (z▸far k y q)) ht⟩
theorem Amb.step(A:Amb c W s)(hb:∀b o,c.B.get? b≠none→s.heap.get? b=some o→s'.heap.get? b=some o)(hf:∀a ob,W.fz a=some ob→W'.fz a=some ob)(hg:s'.gens=s.gens)(ho:s'.os=s.os):Amb c W' s':=
 ⟨fun b o e q=>hb b o (fun z=>nomatch e.symm.trans z) (A.base b o e q),fun t ht=>⟨(A.tab t ht).1,(A.tab t ht).2.imp (hb t _ (A.tab t ht).1) fun ⟨a,ob,h1,h2,h3⟩=>⟨a,ob,hb t _ (A.tab t ht).1 h1,hf _ _ h2,h3⟩⟩,hg.trans A.gens,ho.trans A.os⟩
theorem Step.keeps(R:Rel c W h s)(hk:∀b o,s.heap.get? b=some o→s'.heap.get? b=some o)(hg:s'.gens=s.gens)(ho:s'.os=s.os)(hz:s.heap.objs.size≤s'.heap.objs.size:=by first | assumption | exact Nat.le_refl _ | (simp only [Heap.size_push];omega) | (simp only [upd_size];exact Nat.le_refl _)):Step c h.nx W s W h s':=
 ⟨⟨fun k q=>fun l=>(R.at_ k q l).imp id fun ⟨ob,h1,h2⟩=>⟨ob,hk _ _ h1,h2⟩,R.apart,fun a ob e=>⟨(R.fz a ob e).1,hk _ _ (R.fz a ob e).2.1,(R.fz a ob e).2.2⟩,R.amb.step (fun b o X=>hk b o) (fun X X e=>e) hg ho⟩,
  .refl,hz,fun X a b=>absurd a (Nat.not_le_of_lt b),fun X X e=> .inl e,fun b o e X X=>hk b o e⟩
theorem Step.same(R:Rel c W h s)(hh:s'.heap=s.heap)(hg:s'.gens=s.gens)(ho:s'.os=s.os):Step c h.nx W s W h s':= .keeps R (fun X X e=>hh▸e) hg ho (hh▸rL _)
theorem Step.set(R:Rel c W h s){k:Nat}(o:AO)(hn:k<h.nx)(hl:(h.at_ k).live=true)(hO:o.live=true→∃ob,s'.heap.get? (W.pl k)=some ob∧ObjIs c W h.nx ob o)
  (hk:∀b o,s.heap.get? b=some o→b≠W.pl k→s'.heap.get? b=some o) (hg:s'.gens=s.gens) (ho:s'.os=s.os) (hz:s.heap.objs.size≤s'.heap.objs.size:=by first | assumption | exact Nat.le_refl _ | (simp only [Heap.size_push];omega) | (simp only [upd_size];exact Nat.le_refl _)):Step c h.nx W s W (h.set k o) s':=by
 have hB:=(R.at_ k hn hl).1
 have lv:∀m,m<h.nx→(upd h.at_ k o m).live=true→m=k∨(h.at_ m).live=true:=fun m X l=>(Decidable.em (m=k)).imp id fun q=>zae (f:=h.at_) q▸l
 have far:∀m,m<h.nx→(h.at_ m).live=true→m≠k→W.pl m≠W.pl k:=fun m q l ne e=>ne (R.apart m k q hn l hl e)
 refine ⟨⟨fun m q l=>?_,fun i j a b l m e=>?_,fun a ob e=>⟨(R.fz a ob e).1,hk _ _ (R.fz a ob e).2.1 (Ne.symm ((R.fz a ob e).2.2 k hn hl)),fun m q l=>(lv m q l).elim (fun z=>z▸(R.fz a ob e).2.2 k hn hl) ((R.fz a ob e).2.2 m q)⟩,
  R.amb.step (fun b o q e=>hk b o e fun z=>q (z▸hB)) (fun X X e=>e) hg ho⟩, .refl,hz,fun X a b=>absurd a (Nat.not_le_of_lt b),fun X X e=> .inl e,fun b o e q X=>hk b o e (Ne.symm (q k hn))⟩
 ·have l:(upd h.at_ k o m).live=true:=l
  show _∧∃ob,_∧ObjIs c W h.nx ob (upd h.at_ k o m)
  by_cases z:m=k
  ·subst z
   rw [upd_self] at l⊢
   exact ⟨hB,hO l⟩
  ·rw [zae z] at l⊢
   exact (R.at_ m q l).imp id fun ⟨ob,h1,h2⟩=>⟨ob,hk _ _ h1 (far m q l z),h2⟩
 ·exact R.apart i j a b ((lv i a l).elim (fun z=>z▸hl) id) ((lv j b m).elim (fun z=>z▸hl) id) e
def Wd.put(W:Wd)(n:Nat)(a:Addr):Wd:=⟨upd W.pl n a,W.fz⟩
theorem Le.put(n:Nat)(W:Wd)(a:Addr):Le n W (n+1) (W.put n a):=⟨Nat.le_succ _,fun X q=>zae (Nat.ne_of_lt q),fun X X e=>e⟩
theorem Step.new(R:Rel c W h s){a:Addr}(o:AO)(hO:o.live=true→∃ob,s'.heap.get? a=some ob∧ObjIs c (W.put h.nx a) (h.nx+1) ob o)(ha:s.heap.objs.size≤a)(hB:c.B.get? a=none)
  (hk:∀b o,s.heap.get? b=some o→s'.heap.get? b=some o) (hg:s'.gens=s.gens) (ho:s'.os=s.os) (hz:s.heap.objs.size≤s'.heap.objs.size:=by first | assumption | exact Nat.le_refl _ | (simp only [Heap.size_push];omega) | (simp only [upd_size];exact Nat.le_refl _)):Step c h.nx W s (W.put h.nx a) (h.new o) s':=by
 have L:=Le.put h.nx W a
 have old:∀m,m<h.nx+1→m=h.nx∨m<h.nx:=fun m q=>(Nat.lt_succ_iff_lt_or_eq.mp q).symm
 have lt:∀m,m<h.nx→(h.at_ m).live=true→W.pl m≠a:=fun m q l e=>Nat.not_le_of_lt ((R.at_ m q l).2.elim fun X z=>Heap.lt_size z.1) (e▸ha)
 have pl:∀m,m<h.nx→(W.put h.nx a).pl m=W.pl m:=L.pl
 have at_:∀m,m<h.nx→(h.new o).at_ m=h.at_ m:=fun m q=>zae (Nat.ne_of_lt q)
 have pn:(W.put h.nx a).pl h.nx=a:=upd_self
 refine ⟨⟨fun m q l=>?_,fun i j p q l m e=>?_,fun b ob e=>⟨(R.fz b ob e).1,hk _ _ (R.fz b ob e).2.1,fun m q l=>?_⟩,R.amb.step (fun b o X=>hk b o) (fun X X e=>e) hg ho⟩,L,hz,fun k p q=>?_,fun X X e=> .inl e,fun b o e X X=>hk b o e⟩
 ·rcases old m q with rfl | q
  ·rw [show (h.new o).at_ h.nx=o from upd_self] at l⊢
   rw [pn];exact ⟨hB,hO l⟩
  ·rw [at_ m q] at l⊢
   rw [pl m q];exact (R.at_ m q l).imp id fun ⟨ob,h1,h2⟩=>⟨ob,hk _ _ h1,h2.up L⟩
 ·rcases old i p with rfl | p
  ·rcases old j q with rfl | q
   ·rfl
   ·rw [at_ j q] at m
    rw [pn,pl j q] at e;exact absurd e.symm (lt j q m)
  ·rw [at_ i p] at l
   rcases old j q with rfl | q
   ·rw [pn,pl i p] at e;exact absurd e (lt i p l)
   ·rw [at_ j q] at m
    rw [pl i p,pl j q] at e;exact R.apart i j p q l m e
 ·rcases old m q with rfl | q
  ·rw [pn];exact fun z=>Nat.not_le_of_lt (Heap.lt_size (R.fz b ob e).2.1) (z▸ha)
  ·rw [at_ m q] at l
   rw [pl m q];exact (R.fz b ob e).2.2 m q l
 ·rcases old k q with rfl | q
  ·rw [pn];exact ha
  ·exact absurd p (Nat.not_le_of_lt q)
end
noncomputable def AV.ren(g:Nat→Nat):AV→AV
 | .ref k=> .ref (g k)
 | v=>v
noncomputable def AV.bd(n:Nat):AV→Bool
 | .ref k=>Nat.blt k n
 | _=>true
noncomputable def AO.ren(g:Nat→Nat):AO→AO
 | .list true xs=> .list true (xs.map (AV.ren g))
 | .dict true es=> .dict true (es.map fun e=>(e.1,e.2.ren g))
 | .cell v=> .cell (v.map (AV.ren g))
 | .inst C d=> .inst C (g d)
 | .clo fd cl=> .clo fd (cl.map fun e=>(e.1,g e.2))
 | .bound s f=> .bound (s.ren g) f
 | .citer f s e=> .citer (f.ren g) (s.ren g) e
 | .items d=> .items (g d)
 | .liter l i=> .liter (l.ren g) i
 | .enumr j i=> .enumr (g j) i
 | .revit l i=> .revit (g l) i
 | .diter d=> .diter (g d)
 | .frame _=> .other
 | o=>o
noncomputable def AO.bd(n:Nat):AO→Bool
 | .list true xs=>xs.all (AV.bd n)
 | .dict true es=>es.all fun e=>e.2.bd n
 | .cell (some v)=>v.bd n
 | .inst _ d | .items d | .diter d=>Nat.blt d n
 | .clo _ cl=>cl.all fun e=>Nat.blt e.2 n
 | .bound s _=>s.bd n
 | .citer f s _=>f.bd n&&s.bd n
 | .liter l _=>l.bd n
 | .enumr j _ | .revit j _=>Nat.blt j n
 | .frame _=>false
 | _=>true
section
variable {c:Cx} {n n':Nat} {W W':Wd} {ob:Obj} {g:Nat→Nat}
theorem blt{a b:Nat}(h:Nat.blt a b=true):a<b:=jL h
structure Mp(g:Nat→Nat)(n:Nat)(W:Wd)(n':Nat)(W':Wd):Prop where
 pl:∀k,k<n→g k<n'∧W'.pl (g k)=W.pl k
 fz:∀a ob,W.fz a=some ob→W'.fz a=some ob
theorem Mp.le0(M:Mp g n W n' W'):Le 0 W 0 W':=⟨rL _,fun X q=>absurd q (zN _),M.fz⟩
theorem VR.mp(M:Mp g n W n' W'){x:AV}{v:Value}(h:VR W n x v):VR W' n' (x.ren g) v:=by
 induction x with
 | ref k=>exact ⟨(M.pl k h.1).1,h.2.trans (congrArg Value.ref (M.pl k h.1).2.symm)⟩
 | tup _ | lst _=>exact h.imp fun X=> .imp fun X=> .imp fun X=> .imp_right (.imp_left (M.fz _ _))
 | cod=>exact h.imp fun X=> .imp fun X=> .imp_right (.imp_left (M.fz _ _))
 | _=>exact h
theorem Rs.mapL{α β γ:Type}{R:α→β→Prop}{S:γ→β→Prop}{f:α→γ}{xs:List α}{ys:List β}(i:∀x y,R x y→S (f x) y)(h:Rs R xs ys):Rs S (xs.map f) ys:=h.rec .nil fun a X k=> .cons (i _ _ a) k
theorem Rs.unmap{α β γ:Type}{R:α→β→Prop}{S:γ→β→Prop}{f:α→γ}{p:α→Bool}(i:∀x y,p x=true→S (f x) y→R x y):∀{xs:List α} {ys:List β},xs.all p=true→Rs S (xs.map f) ys→Rs R xs ys
 | [],_,_, .nil=> .nil
 | _ :: _,_,h, .cons a k=> .cons (i _ _ (aI h).1 a) (Rs.unmap i (aI h).2 k)
theorem zi4{cl:List (Str×Nat)}{x:Str}{k:Nat}:(cl.map fun e=>(e.1,g e.2)).lookup x=some k→∃j,cl.lookup x=some j∧k=g j:=by
 induction cl with
 | nil=>exact nofun
 | cons e r ih=>
  rw [List.map_cons,List.lookup_cons,List.lookup_cons]
  induction x==e.1 with
  | true=>exact fun h=>⟨_,rfl,(sI h).symm⟩
  | false=>exact ih
theorem zcU{cl:List (Str×Nat)}{x:Str}{k:Nat}:cl.lookup x=some k→(cl.map fun e=>(e.1,g e.2)).lookup x=some (g k)∧∀p:Str×Nat→Bool,cl.all p=true→∃y,p (y,k)=true:=by
 induction cl with
 | nil=>exact nofun
 | cons e r ih=>
  rw [List.map_cons,List.lookup_cons,List.lookup_cons]
  induction x==e.1 with
  | true=>exact fun h=>⟨congrArg (some ∘ g) (sI h),fun p q=>⟨e.1,sI h▸(aI q).1⟩⟩
  | false=>exact fun h=>⟨(ih h).1,fun p q=>(ih h).2 p (aI q).2⟩
theorem ObjIs.mp(M:Mp g n W n' W'){o:AO}(h:ObjIs c W n ob o):ObjIs c W' n' ob (o.ren g):=by
 induction o with
 | list f=>induction f with
  | true=>exact h.imp fun X=> .imp fun X=> .imp_right (.mapL fun X X=>VR.mp M)
  | false=>exact h.imp fun X=> .imp fun X=> .imp_right (VR.ups M.le0)
 | dict f es=>induction f with
  | true=>exact h.imp fun X=> .imp fun X=> .imp_right fun h=>⟨h.1.mapL (fun X X=>ER.up fun X X=>VR.mp M),by rw [List.map_map];exact h.2.1,fun e=>h.2.2 (List.map_eq_nil_iff.mp e)⟩
  | false=>exact h.imp fun X=> .imp fun X=> .imp_right (.imp_left (.imp fun X X=>ER.up fun X X=>VR.up M.le0))
 | cell v=>induction v with
  | none=>exact h
  | some=>exact h.imp fun X=> .imp_right (.mp M)
 | inst | items | diter | revit=>exact ⟨(M.pl _ h.1).1,(M.pl _ h.1).2.symm▸h.2⟩
 | clo=>exact h.elim fun f h=>h.elim fun v h=>⟨f,v,h.1,h.2.1,h.2.2.1.mp M,fun x k e=>(zi4 e).elim fun j q=>q.2▸⟨(M.pl _ (h.2.2.2.1 x j q.1).1).1,(M.pl _ (h.2.2.2.1 x j q.1).1).2.symm▸(h.2.2.2.1 x j q.1).2⟩,h.2.2.2.2⟩
 | bound=>exact h.imp fun X=> .imp_right (.mp M)
 | citer=>exact h.imp fun X=> .imp fun X=> .imp_right (.imp (.mp M) (.mp M))
 | liter=>exact h.imp fun X=> .imp_left (.mp M)
 | enumr j=>exact h.elim fun o h=>⟨o,(M.pl _ h.1).1,(M.pl _ h.1).2.symm▸h.2⟩
 | frame=>trivial
 | flist=>exact h.imp_right (VR.ups M.le0)
 | _=>exact h
noncomputable def Wd.comp(W:Wd)(g:Nat→Nat):Wd:=⟨fun k=>W.pl (g k),W.fz⟩
theorem VR.cm{x:AV}{v:Value}(b:x.bd n'=true)(h:VR W n (x.ren g) v):VR (W.comp g) n' x v:=by
 induction x with
 | ref k=>exact ⟨blt b,h.2⟩
 | _=>exact h
theorem ObjIs.cm{o:AO}(b:o.bd n'=true)(h:ObjIs c W n ob (o.ren g)):ObjIs c (W.comp g) n' ob o:=by
 have L:Le 0 W 0 (W.comp g):=⟨rL _,fun X q=>absurd q (zN _),fun X X e=>e⟩
 induction o with
 | list f=>induction f with
  | true=>exact h.imp fun X=> .imp fun X=> .imp_right (.unmap (fun X X=>VR.cm) b)
  | false=>exact h.imp fun X=> .imp fun X=> .imp_right (VR.ups L)
 | dict f es=>induction f with
  | true=>exact h.imp fun X=> .imp fun X=> .imp_right fun h=>⟨h.1.unmap (p:=fun e:List Nat×AV=>e.2.bd n') (fun X X b=> .imp fun X=> .imp fun X=> .imp_right (VR.cm b)) b,by have:=h.2.1;rw [List.map_map] at this;exact this,fun e=>h.2.2 (List.map_eq_nil_iff.mpr e)⟩
  | false=>exact h.imp fun X=> .imp fun X=> .imp_right (.imp_left (.imp fun X X=>ER.up fun X X=>VR.up L))
 | cell v=>induction v with
  | none=>exact h
  | some=>exact h.imp fun X=> .imp_right (.cm b)
 | inst | items | diter | revit=>exact ⟨blt b,h.2⟩
 | clo X cl=>exact h.elim fun f h=>h.elim fun v h=>⟨f,v,h.1,h.2.1,h.2.2.1,fun x k e=>⟨((zcU (g:=g) e).2 _ b).elim fun X q=>blt q,(h.2.2.2.1 x _ (zcU e).1).2⟩,h.2.2.2.2⟩
 | bound=>exact h.imp fun X=> .imp_right (.cm b)
 | citer=>exact h.imp fun X=> .imp fun X=> .imp_right (.imp (.cm (aI b).1) (.cm (aI b).2))
 | liter=>exact h.imp fun X=> .imp_left (.cm b)
 | enumr j=>exact h.elim fun o h=>⟨o,blt b,h.2⟩
 | frame=>exact nomatch b
 | flist=>exact h.imp_right (VR.ups L)
 | _=>exact h
end
noncomputable def gl(σ:List Nat)(k:Nat):Nat:=σ.getD k 0
noncomputable def ix(k:Nat):List Nat→Option Nat
 | []=>none
 | x :: r=>bif Nat.beq x k then some 0 else (ix k r).map Nat.succ
noncomputable def nd:List Nat→Bool
 | []=>true
 | x :: r=>(ix x r).isNone&&nd r
noncomputable def Hp.of(os:List AO):Hp:=⟨os.length,fun k=>os.getD k .other⟩
structure Vw(σ:List Nat)(h:Hp)(os:List AO):Prop where
 e:σ.map h.at_=os.map (AO.ren (gl σ))
 b:(os.all (AO.bd os.length)&&os.all (fun o=>(o.ren id).live)&&nd σ&&σ.all fun k=>Nat.blt k h.nx)=true
theorem zlD{g:Nat→Nat}{o:AO}:(o.ren g).live=(o.ren id).live:=by
 induction o with
 | list f=>induction f <;> rfl
 | dict f=>induction f <;> rfl
 | _=>rfl
theorem zjQ{g:Nat→Nat}{o:AO}(h:(o.ren g).live=true):o.live=true:=by
 induction o with
 | frame=>exact nomatch h
 | other=>exact nomatch h
 | _=>rfl
theorem zg9:∀{σ:List Nat} {k i:Nat},ix k σ=some i→i<σ.length∧gl σ i=k
 | x :: r,k,i,h=>by
  unfold ix at h
  induction e:Nat.beq x k with
  | true=>rw [e] at h;cases h;exact ⟨Nat.zero_lt_succ _,qB e⟩
  | false=>rw [e] at h;exact (jE h).elim fun j q=>q.2▸⟨Nat.succ_lt_succ (zg9 q.1).1,(zg9 q.1).2⟩
theorem zme:∀{σ:List Nat} {i:Nat},nd σ=true→i<σ.length→ix (gl σ i) σ=some i
 | x :: r,0,_,_=>by
  unfold ix
  rw [show gl (x :: r) 0=x from rfl,Nat.beq_refl];rfl
 | x :: r,i+1,h,l=>by
  have h:=aI h
  have e:=zme h.2 (Nat.lt_of_succ_lt_succ l)
  unfold ix
  rw [show gl (x :: r) (i+1)=gl r i from rfl]
  induction q:Nat.beq x (gl r i) with
  | true=>rw [qB q,e] at h;exact nomatch h.1
  | false=>rw [e];rfl
section
variable {c:Cx} {n:Nat} {W W' W₁:Wd} {h h' E₁:Hp} {s s' s₁:Shared} {σ:List Nat} {os:List AO}
theorem Vw.len(V:Vw σ h os):σ.length=os.length:=by simpa using congrArg List.length V.e
theorem Vw.at_(V:Vw σ h os){k:Nat}(l:k<os.length):gl σ k<h.nx∧h.at_ (gl σ k)=((Hp.of os).at_ k).ren (gl σ)∧((Hp.of os).at_ k).bd os.length=true∧(h.at_ (gl σ k)).live=true:=by
 have e:=V.1
 have b:=V.2
 have el:σ.length=os.length:=by simpa using congrArg List.length e
 simp only [Bool.and_eq_true] at b
 have e1:σ[k]? = some (gl σ k):=by rw [gl,List.getD_eq_getElem?_getD,List.getElem?_eq_getElem (el▸l)];rfl
 have e2:os[k]? = some ((Hp.of os).at_ k):=by
  show _=some (os.getD k .other)
  rw [List.getD_eq_getElem?_getD,List.getElem?_eq_getElem l];rfl
 have e3:=congrArg (·[k]?) e
 simp only [List.getElem?_map,e1,e2,Option.map_some] at e3
 have e3:=sI e3
 exact ⟨blt (aT b.2 _ (mG e1)),e3,aT b.1.1.1 _ (mG e2),by rw [e3,zlD];exact aT b.1.1.2 _ (mG e2)⟩
theorem Vw.inj(V:Vw σ h os){i j:Nat}(a:i<os.length)(b:j<os.length)(e:gl σ i=gl σ j):i=j:=by
 have q:=V.b
 simp only [Bool.and_eq_true] at q
 have x:=zme q.1.2 (V.len▸a)
 rw [e,zme q.1.2 (V.len▸b)] at x
 exact (sI x).symm
theorem Rel.view(R:Rel c W h s)(V:Vw σ h os):Rel c (W.comp (gl σ)) (Hp.of os) s:=
 ⟨fun k q l=>(R.at_ _ (V.at_ q).1 (V.at_ q).2.2.2).imp id fun ⟨ob,h1,h2⟩=>⟨ob,h1, .cm (V.at_ q).2.2.1 ((V.at_ q).2.1▸h2)⟩,fun i j a b X X e=>V.inj a b (R.apart _ _ (V.at_ a).1 (V.at_ b).1 (V.at_ a).2.2.2 (V.at_ b).2.2.2 e),
  fun a ob e=>⟨(R.fz a ob e).1,(R.fz a ob e).2.1,fun k q X=>(R.fz a ob e).2.2 _ (V.at_ q).1 (V.at_ q).2.2.2⟩,R.amb.1,R.amb.2,R.amb.3,R.amb.4⟩
theorem Step.view(S:Step c n W s W' h' s')(V:Vw σ h' os)(p:((List.range n).all (fun j=>Nat.beq (gl σ j) j)&&Nat.ble n os.length)=true):Step c n W s (W'.comp (gl σ)) (Hp.of os) s':=by
 have p:=aI p
 have id_:∀j,j<n→gl σ j=j:=fun j q=>qB (aT p.1 j (List.mem_range.mpr q))
 have le:n≤os.length:=jL p.2
 exact ⟨S.rel.view V,⟨le,fun k q=>(congrArg W'.pl (id_ k q)).trans (S.le.pl k q),S.le.fz⟩,S.size,
  fun k a b=>S.fresh _ ((Nat.lt_or_ge (gl σ k) n).elim (fun q=>absurd (V.inj (lL q le) b (id_ _ q)) (Nat.ne_of_lt (lL q a))) id) (V.at_ b).1,S.freshF,S.kept⟩
noncomputable def g2(h:Hp)(σ:List Nat)(i:Nat):Nat:=bif Nat.blt i σ.length then gl σ i else h.nx+(i-σ.length)
def Hp.patch(h:Hp)(σ:List Nat)(E:Hp):Hp:=⟨h.nx+(E.nx-σ.length),fun k=>bif Nat.blt k h.nx then (match ix k σ with | some i=>(E.at_ i).ren (g2 h σ) | none=>h.at_ k) else (E.at_ (k-h.nx+σ.length)).ren (g2 h σ)⟩
noncomputable def Wd.patch(W:Wd)(h:Hp)(m:Nat)(W₁:Wd):Wd:=⟨fun k=>bif Nat.blt k h.nx then W.pl k else W₁.pl (k-h.nx+m),W₁.fz⟩
theorem zkR{a b:Nat}(h:b≤a):Nat.blt a b=false:=by
 induction e:Nat.blt a b with
 | true=>exact absurd (blt e) (Nat.not_lt_of_le h)
 | false=>rfl
theorem ziw{a b:Nat}(h:a<b):Nat.blt a b=true:=Nat.ble_eq_true_of_le h
theorem zeb(V:Vw σ h os)(S:Step c (Hp.of os).nx (W.comp (gl σ)) s W₁ E₁ s₁):Mp (g2 h σ) E₁.nx W₁ (h.patch σ E₁).nx (W.patch h σ.length W₁):=by
 refine ⟨fun k q=>?_,fun X X e=>e⟩
 unfold g2 Wd.patch Hp.patch
 have el:=V.len
 have le:os.length≤E₁.nx:=S.le.le
 rcases Nat.lt_or_ge k os.length with a | a
 ·have b:=(V.at_ a).1
  simp only [ziw (el▸a:k<σ.length),ziw b,cond_true]
  exact ⟨lL b (Nat.le_add_right _ _),(S.le.pl k a).symm⟩
 ·simp only [zkR (el▸a:σ.length≤k),cond_false,zkR (Nat.le_add_right h.nx (k-σ.length))]
  exact ⟨Nat.add_lt_add_left (Nat.sub_lt_sub_right (el▸a) q) _,congrArg W₁.pl (by rw [Nat.add_sub_cancel_left,Nat.sub_add_cancel (el▸a)])⟩
theorem Step.patch(R:Rel c W h s)(V:Vw σ h os)(S:Step c (Hp.of os).nx (W.comp (gl σ)) s W₁ E₁ s₁):Step c h.nx W s (W.patch h σ.length W₁) (h.patch σ E₁) s₁:=by
 have M:=zeb V S
 have el:=V.len
 have le:os.length≤E₁.nx:=S.le.le
 have L:Le h.nx W (h.patch σ E₁).nx (W.patch h σ.length W₁):=⟨Nat.le_add_right _ _,fun k q=>by unfold Wd.patch;simp only [ziw q,cond_true],S.le.fz⟩
 have live:∀k,k<h.nx→(h.at_ k).live=true→W.pl k<s.heap.objs.size:=fun k q l=>(R.at_ k q l).2.elim fun X z=>Heap.lt_size z.1
 have far:∀k,k<h.nx→ix k σ=none→(h.at_ k).live=true→∀j,j<os.length→W.pl (gl σ j)≠W.pl k:=fun k q n l j a e=>by
  have z:=R.apart _ _ (V.at_ a).1 q (V.at_ a).2.2.2 l e
  have b:=V.b
  simp only [Bool.and_eq_true] at b
  rw [←z,zme b.1.2 (el▸a)] at n
  cases n
 -- every place is one of the call's or an old one
 have key:∀k,k<(h.patch σ E₁).nx→((h.patch σ E₁).at_ k).live=true→(∃i,i<E₁.nx∧g2 h σ i=k∧(h.patch σ E₁).at_ k=(E₁.at_ i).ren (g2 h σ)∧(E₁.at_ i).live=true)∨(k<h.nx∧ix k σ=none∧(h.patch σ E₁).at_ k=h.at_ k):=fun k q l=>by
  have q:k<h.nx+(E₁.nx-σ.length):=q
  have e:(h.patch σ E₁).at_ k=bif Nat.blt k h.nx then (match ix k σ with | some i=>(E₁.at_ i).ren (g2 h σ) | none=>h.at_ k) else (E₁.at_ (k-h.nx+σ.length)).ren (g2 h σ):=rfl
  rcases Nat.lt_or_ge k h.nx with a | a
  ·rw [ziw a,cond_true] at e
   induction x:ix k σ with
   | none=>rw [x] at e;exact .inr ⟨a,rfl,e⟩
   | some i=>
    rw [x] at e
    have e:(h.patch σ E₁).at_ k=(E₁.at_ i).ren (g2 h σ):=e
    obtain ⟨x1,x2⟩:=zg9 x
    exact .inl ⟨i,lL (el▸x1) le,by unfold g2;rw [ziw x1];exact x2,e,zjQ (g:=g2 h σ) (e▸l)⟩
  ·rw [zkR a,cond_false] at e
   exact .inl ⟨k-h.nx+σ.length,Nat.add_lt_of_lt_sub (Nat.sub_lt_left_of_lt_add a q),by unfold g2;rw [zkR (Nat.le_add_left _ _),cond_false,Nat.add_sub_cancel,Nat.add_sub_cancel' a],e,zjQ (g:=g2 h σ) (e▸l)⟩
 have pli:∀i,i<E₁.nx→(W.patch h σ.length W₁).pl (g2 h σ i)=W₁.pl i:=fun i q=>(M.pl i q).2
 have mix:∀i,i<E₁.nx→∀k,k<h.nx→ix k σ=none→(h.at_ k).live=true→W₁.pl i≠W.pl k:=fun i q k a n l e=>(Nat.lt_or_ge i os.length).elim (fun z=>far k a n l i z ((S.le.pl i z).symm.trans e)) fun z=>Nat.not_le_of_lt (live k a l) (e▸S.fresh i z q)
 refine ⟨⟨fun k q l=>?_,fun i j a b l m e=>?_,fun a ob e=>⟨(S.rel.fz a ob e).1,(S.rel.fz a ob e).2.1,fun k q l=>?_⟩,S.rel.amb.1,S.rel.amb.2,S.rel.amb.3,S.rel.amb.4⟩,L,S.size,fun k a b=>?_,fun a ob e=>(S.freshF a ob e).imp id (.imp id fun ⟨j,q,z⟩=>⟨_,(V.at_ q).1,z⟩),fun b o e hp ht=>S.kept b o e (fun j q=>hp _ (V.at_ q).1) ht⟩
 ·rcases key k q l with ⟨i,i1,i2,i3,i4⟩ | ⟨a,n,i3⟩
  ·rw [←i2,pli i i1,i2,i3]
   exact (S.rel.at_ i i1 i4).imp id fun ⟨ob,h1,h2⟩=>⟨ob,h1,h2.mp M⟩
  ·rw [i3] at l⊢
   obtain ⟨o1,ob,h1,h2⟩:=R.at_ k a l
   rw [L.pl k a]
   exact ⟨o1,ob,S.kept _ _ h1 (fun j q=>far k a n l j q) (fun ht=>(R.amb.tab _ ht).1 o1),h2.up L⟩
 ·rcases key i a l with ⟨x,x1,x2,_,x4⟩ | ⟨p,n,x3⟩
  ·rcases key j b m with ⟨y,y1,y2,_,y4⟩ | ⟨p',n',y3⟩
   ·rw [←x2,←y2,pli x x1,pli y y1] at e
    rw [←x2,←y2,S.rel.apart x y x1 y1 x4 y4 e]
   ·rw [←x2,pli x x1,L.pl j p'] at e
    exact absurd e (mix x x1 j p' n' (y3▸m))
  ·rcases key j b m with ⟨y,y1,y2,_,y4⟩ | ⟨p',n',y3⟩
   ·rw [←y2,pli y y1,L.pl i p] at e
    exact absurd e.symm (mix y y1 i p n (x3▸l))
   ·rw [L.pl i p,L.pl j p'] at e
    exact R.apart i j p p' (x3▸l) (y3▸m) e
 ·rcases key k q l with ⟨i,i1,i2,_,i4⟩ | ⟨p,n,i3⟩
  ·rw [←i2,pli i i1];exact (S.rel.fz a ob e).2.2 i i1 i4
  ·rw [L.pl k p]
   have l:(h.at_ k).live=true:=i3▸l
   exact fun z=>(S.freshF a ob e).elim (fun y=>(R.fz a ob y).2.2 k p l z) fun y=>y.elim (fun y=>Nat.not_le_of_lt (live k p l) (z▸y)) fun ⟨j,y1,y2⟩=>far k p n l j y1 (y2.trans z.symm)
 ·have b:k<h.nx+(E₁.nx-σ.length):=b
  have e:(W.patch h σ.length W₁).pl k=W₁.pl (k-h.nx+σ.length):=by unfold Wd.patch;simp only [zkR a,cond_false]
  rw [e]
  exact S.fresh _ (show os.length≤k-h.nx+σ.length from el▸Nat.le_add_left _ _) (Nat.add_lt_of_lt_sub (Nat.sub_lt_left_of_lt_add a b))
end
end Mn
end
section
open PySem PySem.W PyProof.Rows PySem.Calls PySem.SeqAt
namespace Mn
structure Tabs where
 glob:Str→Option AV
 blt:Str→Option AV
 meth:Nat→List (Str×Nat)
 attrs:Nat→List (List Nat)
 defs:Nat→Option (FDat×List AV)
 intSet:Nat→Option (List Int)
 intTab:Nat→Option (List (Int×List Nat))
 rx:Nat→Option (List Nat→Bool)
def VR0(v:AV)(val:Value):Prop:=VR ⟨fun X=>0,fun X=>none⟩ 0 v val
theorem VR0.up{W:Wd}{n:Nat}{v:AV}{val:Value}(h:VR0 v val):VR W n v val:=VR.up ⟨Nat.zero_le _,fun X q=>absurd q (zN _),fun X X q=>nomatch (q:none=some _)⟩ h
def FnB(c:Cx)(a:Addr)(fd:FDat)(dflt:List AV):Prop:=a∉c.tabs∧∃o fd',c.B.get? a=some o∧o.data = .func fd'∧fd'.params=fd.params∧fd'.body = .stmts fd.body∧fd'.scope=fd.scope∧fd'.globals=c.G∧fd'.builtins=0∧
  (∃cd oc vs q t,fd'.code = .ref cd∧cd∉c.tabs∧c.B.get? cd=some oc∧oc.data = .fields vs∧vs[1]? = some (.str q t)∧
   ∀t l k,fd.tab=some (t,l,k)→t∈c.tabs∧c.tinfo t=(l,k)∧c.B.TableAt cd t #[]∧c.B.IsCode cd t #[])∧
  ((fd'.defaults = .none∧dflt = [])∨∃T o items n,fd'.defaults = .ref T∧T∉c.tabs∧c.B.get? T=some o∧o.data = .seq items n∧Rs VR0 dflt items.toList)
noncomputable def zb3(T:Tabs)(C:Nat)(name:List Nat):Option Nat:=((T.meth C).find? (fun m=>m.1.cps.toList==name)).map (·.2)
structure Stat(T:Tabs)(c:Cx):Prop where
 gl:∃m,c.B.Ns c.G m∧(∀x v,T.glob x=some v→∃val,m x=some val∧VR0 v val)∧(∀x,T.glob x=none→(T.blt x).isSome=true→m x=none)
 bl:∃m,c.B.Ns 0 m∧∀x v,T.blt x=some v→∃val,m x=some val∧VR0 v val
 gt:c.G∉c.tabs
 bt:0∉c.tabs
 st:cStatics∉c.tabs
 lim:c.B.NoLimit
 bf:∀(M:Model) (h:Heap),(∀b o,c.B.get? b=some o→b∉c.tabs→h.get? b=some o)→Looks M h (builtinsFor c.G 0) 0
 fn:∀a fd dflt,T.defs a=some (fd,dflt)→FnB c a fd dflt
 set_:∀a is,T.intSet a=some is→a∉c.tabs∧∃n,c.B.SetOf (PySem.intKind c.prog c.w) a (fun k=>is.contains k) n
 inB:c.K.In c.B
 tabs:∀a o,c.K.lookup a=some o→a∉c.tabs
 cls:∀C,T.attrs C≠ []∨T.meth C≠ []→findIn c.K (.ref C) "__getattribute__" =some (some (.builtin "object.__getattribute__"))∧findIn c.K (.ref C) "__setattr__" =some (some (.builtin "object.__setattr__"))∧
  plainOver c.K C=true∧(clsIn c.K C).any (·.hasDict)=true∧findIn c.K (.ref C) "__getattr__" =some none
 attr:∀C n,n∈T.attrs C→findIn c.K (.ref C) (strOf n)=some none
 meth:∀C n f,zb3 T C n=some f→findIn c.K (.ref C) (strOf n)=some (some (.ref f))∧specialIn c.K (.ref f) "__get__" =some (some (.builtin "function.__get__"))∧typeIn c.K (.ref f)=some (.type "function")∧takesIn c.K (.ref f)=some false∧copiedNames.contains (strOf n)=false
 make:∀C m,zb3 T C [95,95,105,110,105,116,95,95]=some m→makesIn c.K C=true∧keepIn c.K (.ref C)=true
structure Room(A:Around)(n:Nat):Prop where
 hand:A.handled=none
 depth:A.depth+8*n+4<900
 units:A.units+60*n+100<cLine
structure RoomC(A:Around)(n:Nat):Prop where
 hand:A.handled=none
 depth:A.depth+8*n<900
 units:A.units+60*n+70<cLine
theorem Room.c{A:Around}{n:Nat}(h:Room A n):RoomC A n:=⟨h.hand,lE (Nat.le_add_right _ _) h.depth,lE (Nat.add_le_add_left (by decide) _) h.units⟩
structure PM(T:Tabs) where
 c:Cx
 S:Stat T c
 n:Nat
section
variable {T:Tabs} (P:PM T)
structure Go(W:Wd)(h:Hp)(s:Shared)(A:Around):Prop where
 room:Room A P.n
 rel:Rel P.c W h s
def Kn{α β:Type}(RR:Wd→Nat→α→β→Prop)(K:α→Hp→Prop)(W:Wd)(n:Nat)(s:Shared)(Q:β→Shared→Prop):Prop:=∀⦃W' v val h' s'⦄,Step P.c n W s W' h' s'→RR W' h'.nx v val→K v h'→Q val s'
def J{ι α β:Type}(RI:Wd→Nat→ι→Prop)(RR:Wd→Nat→α→β→Prop)(t:ι→Sem β)(h:Hp)(K:α→Hp→Prop):Prop:=
 ∀(A:Around) (E:Value→Shared→Prop) (Q:β→Shared→Prop) (s:Shared) (W:Wd) (i:ι),Go P W h s A→RI W h.nx i→Kn P RR K W h.nx s Q→wpAny (model P.c.prog P.c.w) A (t i) Q E s
end
def VV(W:Wd)(n:Nat)(x:AV)(v:Value):Prop:=VR W n x v
def BB(_:Wd)(_:Nat)(x y:Bool):Prop:=y=x
def UU(_:Wd)(_:Nat)(_:Unit)(_:Unit):Prop:=True
def V1(a:AV)(W:Wd)(n:Nat)(v:Value):Prop:=VR W n a v
def V2(a b:AV)(W:Wd)(n:Nat)(v:Value×Value):Prop:=VR W n a v.1∧VR W n b v.2
def V3(a b d:AV)(W:Wd)(n:Nat)(v:Value×Value×Value):Prop:=VR W n a v.1∧VR W n b v.2.1∧VR W n d v.2.2
structure Fr where
 sc:Scope
 L:Nat
 cel:List (Str×Nat)
 tab:Option (Nat×Nat×Nat)
structure FrAt(c:Cx)(W:Wd)(n:Nat)(env:Env)(fr:Fr):Prop where
 kind:env.scope.kind = .function
 kinds:∀x k,fr.sc.names.lookup x=some k→env.kindOf x=some k∨(k = .free∧env.kindOf x=some .cell)
 glob:env.globals=c.G
 blt:env.builtins=0
 loc:fr.L<n∧env.locals=W.pl fr.L
 cells:∀x t,fr.cel.lookup x=some t→t<n∧env.cells.lookup x=some (W.pl t)
 tab:∀t l k,fr.tab=some (t,l,k)→t∈c.tabs∧c.tinfo t=(l,k)∧∃a,env.code = .ref a∧a∉c.tabs∧c.B.TableAt a t #[]∧c.B.IsCode a t #[]
def FI{T:Tabs}(P:PM T)(fr:Fr)(W:Wd)(n:Nat)(env:Env):Prop:=FrAt P.c W n env fr
noncomputable def zjA(x:Str):Bool:=!(x==("__debug__" :Str)) && !(x==("__classdict__" :Str))
def req(b:Bool)(p:Prop):Prop:=Bool.casesOn (motive:=fun X=>Prop) b False p
def br(b:Bool)(p q:Prop):Prop:=Bool.casesOn (motive:=fun X=>Prop) b q p
def opt{α:Type}(o:Option α)(k:α→Prop):Prop:=Option.casesOn (motive:=fun X=>Prop) o False k
def alt{α:Type}(o:Option α)(k:α→Prop)(p:Prop):Prop:=Option.casesOn (motive:=fun X=>Prop) o p k
inductive res(x:Int)(b:Bool)(k:Int→Prop):Prop
 | mk (y:Int) (e:x=y) (c:b=true) (h:k y)
inductive mapK{α β:Type}(f:β→α)(xs:List α)(k:List β→Prop):Prop
 | mk (is:List β) (e:xs=is.map f) (h:k is)
theorem mapK.ex{α β:Type}{f:β→α}{xs:List α}{k:List β→Prop}(H:mapK f xs k):∃is,xs=is.map f∧k is:=H.casesOn fun is e h=>⟨is,e,h⟩
section
variable {α:Type} {b:Bool} {p q G:Prop} {o:Option α} {k:α→Prop} {a:α} {x:Int} {m:Int→Prop}
theorem zoA(e:b=true)(h:p):req b p:=by subst e;exact h
theorem br_t(e:b=true)(h:p):br b p q:=by subst e;exact h
theorem br_f(e:b=false)(h:q):br b p q:=by subst e;exact h
theorem zbM(e:o=some a)(h:k a):opt o k:=by subst e;exact h
theorem req.go(h:req b p)(f:b=true→p→G):G:=by
 induction b
 ·exact h.elim
 ·exact f rfl h
theorem br.go(h:br b p q)(f:b=true→p→G)(g:b=false→q→G):G:=by
 induction b
 ·exact g rfl h
 ·exact f rfl h
theorem opt.go(h:opt o k)(f:∀a,o=some a→k a→G):G:=by
 induction o
 ·exact h.elim
 ·exact f _ rfl h
theorem alt.go(h:alt o k p)(f:∀a,o=some a→k a→G)(g:o=none→p→G):G:=by
 induction o
 ·exact g rfl h
 ·exact f _ rfl h
theorem res.go(h:res x b m)(f:b=true→m x→G):G:=h.casesOn fun X e c h=>f c (e▸h)
end
inductive Rq(b:Bool)(p:Prop):Prop
 | t (e:b=true) (h:p)
inductive Br(b:Bool)(p q:Prop):Prop
 | t (e:b=true) (h:p)
 | f (e:b=false) (h:q)
inductive Op{α:Type}(o:Option α)(k:α→Prop):Prop
 | s (a:α) (e:o=some a) (h:k a)
inductive Al{α:Type}(o:Option α)(k:α→Prop)(p:Prop):Prop
 | s (a:α) (e:o=some a) (h:k a)
 | n (e:o=none) (h:p)
section
variable {α:Type} {b:Bool} {p q G:Prop} {o:Option α} {k:α→Prop}
theorem Rq.go(h:Rq b p)(f:b=true→p→G):G:=h.casesOn f
theorem Br.go(h:Br b p q)(f:b=true→p→G)(g:b=false→q→G):G:=h.casesOn f g
theorem Op.go(h:Op o k)(f:∀a,o=some a→k a→G):G:=h.casesOn f
theorem Al.go(h:Al o k p)(f:∀a,o=some a→k a→G)(g:o=none→p→G):G:=h.casesOn f g
end
section
variable {T:Tabs} {P:PM T} {W W₁:Wd} {h h₁:Hp} {s s₁:Shared} {A:Around} {E:Value→Shared→Prop} {n:Nat}
theorem Go.u(G:Go P W h s A):A.units+70<cLine:=by have:=G.room.units;lia
theorem Go.step(G:Go P W h s A)(S:Step P.c n W s W₁ h₁ s₁){W₀:Wd}:Go P W₁ h₁ s₁ A:=⟨G.room,S.rel⟩
theorem FrAt.up{c:Cx}{n n':Nat}{W W':Wd}{env:Env}{fr:Fr}(F:FrAt c W n env fr)(L:Le n W n' W'):FrAt c W' n' env fr:=
 ⟨F.kind,F.kinds,F.glob,F.blt,⟨lL F.loc.1 L.le,F.loc.2.trans (L.pl _ F.loc.1).symm⟩,fun x t e=>⟨lL (F.cells x t e).1 L.le,(L.pl _ (F.cells x t e).1).symm▸(F.cells x t e).2⟩,F.tab⟩
theorem Kn.after{α β:Type}{RR:Wd→Nat→α→β→Prop}{K:α→Hp→Prop}{Q:β→Shared→Prop}(k:Kn P RR K W n s Q)(S:Step P.c n W s W₁ h₁ s₁):Kn P RR K W₁ h₁.nx s₁ Q:=fun X X X X X S' V q=>k (S.trans S') V q
theorem Kn.here{K:AV→Hp→Prop}{Q:Value→Shared→Prop}(k:Kn P VV K W h.nx s Q)(R:Rel P.c W h s){v:AV}{val:Value}(hv:VR W h.nx v val)(q:K v h){tk:Nat}{d:Drawn}:Q val {s with toks:=tk,drawn:=d}:=k (.same R rfl rfl rfl) hv q
theorem Kn.nu{K:AV→Hp→Prop}{Q:Value→Shared→Prop}(k:Kn P VV K W h.nx s Q)(R:Rel P.c W h s){o:AO}{ob:Obj}(hl:ob.isFreed=false)(hO:∀W',Le h.nx W (h.nx+1) W'→ObjIs P.c W' (h.nx+1) ob o)(q:K (.ref h.nx) (h.new o)){tk:Nat}{d:Drawn}:Q (.ref s.heap.objs.size) {s with heap:=s.heap.push ob,toks:=tk,drawn:=d}:=
 k (.new R (a:=s.heap.objs.size) o (fun X=>⟨ob,pZ _ hl,hO _ (.put ..)⟩) (rL _) (by
  induction e:P.c.B.get? s.heap.objs.size with
  | none=>rfl
  | some x=>
   by_cases ht:s.heap.objs.size∈P.c.tabs
   ·exact absurd ((R.amb.tab _ ht).2.elim Heap.lt_size fun ⟨X,Z,q,Y⟩=>Heap.lt_size q) (Nat.lt_irrefl _)
   ·exact absurd (Heap.lt_size (R.amb.base _ _ e ht)) (Nat.lt_irrefl _)) (fun X X e=>pS _ e) rfl rfl) (show VR _ _ (.ref h.nx) _ from ⟨sS _,congrArg Value.ref upd_self.symm⟩) q
theorem Rel.obj{c:Cx}(R:Rel c W h s){k:Nat}(hk:k<h.nx){o:AO}(e:h.at_ k=o)(l:o.live=true):∃ob,s.heap.get? (W.pl k)=some ob∧ObjIs c W h.nx ob o:=(e▸R.at_ k hk:OAt _ _ _ _ _ o) l |>.2
theorem zef{h h':Heap}{a:Addr}{m:Str→Option Value}(hn:h.Ns a m)(e:∀o,h.get? a=some o→h'.get? a=some o):h'.Ns a m:=hn.imp fun X=> .imp fun X=> .imp fun X=> .imp_left (e _)
end
def zgk(l:List Nat):Prop:=∀c∈l,c<0x110000
inductive eqL(xs ys:List AV)(k:Bool→Prop):Prop
 | len (e:Nat.beq xs.length ys.length=false) (H:k false)
 | strs (a b:List (List Nat)) (ea:xs=a.map .str) (eb:ys=b.map .str) (ca:∀s∈a,zgk s) (cb:∀s∈b,zgk s) (H:k (a==b))
 | ints (a b:List Int) (ea:xs=a.map .int) (eb:ys=b.map .int) (H:k (a==b))
set_option genCtorIdx false in
inductive U where
 | o
 | b (b:Bool)
 | n (n:Nat)
 | i (i:Int)
 | s (s:List Nat)
 | a (a:AV)
 | x (x:SV)
 | ht (a:AV) (l:List AV)
 | en (i:Int) (s:List Nat)
 | li (l:List Int)
 | ls (l:List (List Nat))
 | lo (l:List (Option (List Nat)))
 | len
 | txt (a b:List (List Nat))
 | num (a b:List Int)
noncomputable def U.b?(u:U):Option Bool:=U.casesOn (motive:=fun X=>Option Bool) u Option.none some (fun X=>Option.none) (fun X=>Option.none) (fun X=>Option.none) (fun X=>Option.none) (fun X=>Option.none) (fun X X=>Option.none) (fun X X=>Option.none) (fun X=>Option.none) (fun X=>Option.none) (fun X=>Option.none) Option.none (fun X X=>Option.none) (fun X X=>Option.none)
noncomputable def U.n?(u:U):Option Nat:=U.casesOn (motive:=fun X=>Option Nat) u Option.none (fun X=>Option.none) some (fun X=>Option.none) (fun X=>Option.none) (fun X=>Option.none) (fun X=>Option.none) (fun X X=>Option.none) (fun X X=>Option.none) (fun X=>Option.none) (fun X=>Option.none) (fun X=>Option.none) Option.none (fun X X=>Option.none) (fun X X=>Option.none)
noncomputable def U.i?(u:U):Option Int:=U.casesOn (motive:=fun X=>Option Int) u Option.none (fun X=>Option.none) (fun X=>Option.none) some (fun X=>Option.none) (fun X=>Option.none) (fun X=>Option.none) (fun X X=>Option.none) (fun X X=>Option.none) (fun X=>Option.none) (fun X=>Option.none) (fun X=>Option.none) Option.none (fun X X=>Option.none) (fun X X=>Option.none)
noncomputable def U.s?(u:U):Option (List Nat):=U.casesOn (motive:=fun X=>Option (List Nat)) u Option.none (fun X=>Option.none) (fun X=>Option.none) (fun X=>Option.none) some (fun X=>Option.none) (fun X=>Option.none) (fun X X=>Option.none) (fun X X=>Option.none) (fun X=>Option.none) (fun X=>Option.none) (fun X=>Option.none) Option.none (fun X X=>Option.none) (fun X X=>Option.none)
noncomputable def U.a?(u:U):Option AV:=U.casesOn (motive:=fun X=>Option AV) u Option.none (fun X=>Option.none) (fun X=>Option.none) (fun X=>Option.none) (fun X=>Option.none) some (fun X=>Option.none) (fun X X=>Option.none) (fun X X=>Option.none) (fun X=>Option.none) (fun X=>Option.none) (fun X=>Option.none) Option.none (fun X X=>Option.none) (fun X X=>Option.none)
noncomputable def U.x?(u:U):Option SV:=U.casesOn (motive:=fun X=>Option SV) u Option.none (fun X=>Option.none) (fun X=>Option.none) (fun X=>Option.none) (fun X=>Option.none) (fun X=>Option.none) some (fun X X=>Option.none) (fun X X=>Option.none) (fun X=>Option.none) (fun X=>Option.none) (fun X=>Option.none) Option.none (fun X X=>Option.none) (fun X X=>Option.none)
noncomputable def U.ht?(u:U):Option (AV×List AV):=U.casesOn (motive:=fun X=>Option (AV×List AV)) u Option.none (fun X=>Option.none) (fun X=>Option.none) (fun X=>Option.none) (fun X=>Option.none) (fun X=>Option.none) (fun X=>Option.none) (fun a l=>some (a,l)) (fun X X=>Option.none) (fun X=>Option.none) (fun X=>Option.none) (fun X=>Option.none) Option.none (fun X X=>Option.none) (fun X X=>Option.none)
noncomputable def U.en?(u:U):Option (Int×List Nat):=U.casesOn (motive:=fun X=>Option (Int×List Nat)) u Option.none (fun X=>Option.none) (fun X=>Option.none) (fun X=>Option.none) (fun X=>Option.none) (fun X=>Option.none) (fun X=>Option.none) (fun X X=>Option.none) (fun a l=>some (a,l)) (fun X=>Option.none) (fun X=>Option.none) (fun X=>Option.none) Option.none (fun X X=>Option.none) (fun X X=>Option.none)
noncomputable def U.li?(u:U):Option (List Int):=U.casesOn (motive:=fun X=>Option (List Int)) u Option.none (fun X=>Option.none) (fun X=>Option.none) (fun X=>Option.none) (fun X=>Option.none) (fun X=>Option.none) (fun X=>Option.none) (fun X X=>Option.none) (fun X X=>Option.none) some (fun X=>Option.none) (fun X=>Option.none) Option.none (fun X X=>Option.none) (fun X X=>Option.none)
noncomputable def U.ls?(u:U):Option (List (List Nat)):=U.casesOn (motive:=fun X=>Option (List (List Nat))) u Option.none (fun X=>Option.none) (fun X=>Option.none) (fun X=>Option.none) (fun X=>Option.none) (fun X=>Option.none) (fun X=>Option.none) (fun X X=>Option.none) (fun X X=>Option.none) (fun X=>Option.none) some (fun X=>Option.none) Option.none (fun X X=>Option.none) (fun X X=>Option.none)
noncomputable def U.lo?(u:U):Option (List (Option (List Nat))):=U.casesOn (motive:=fun X=>Option (List (Option (List Nat)))) u Option.none (fun X=>Option.none) (fun X=>Option.none) (fun X=>Option.none) (fun X=>Option.none) (fun X=>Option.none) (fun X=>Option.none) (fun X X=>Option.none) (fun X X=>Option.none) (fun X=>Option.none) (fun X=>Option.none) some Option.none (fun X X=>Option.none) (fun X X=>Option.none)
set_option genCtorIdx false in
inductive Tr(β:Type):Type 1
 | ret (a:β) (h:Hp)
 | no
 | rq (b:Bool) (t:Tr β)
 | bs (b:Bool) (t e:Tr β)
 | os {ι:Type} (o:Option ι) (k:ι→Tr β)
 | al {ι:Type} (o:Option ι) (k:ι→Tr β) (n:Tr β)
 | Rq (b:Bool) (t:Tr β)
 | Br (b:Bool) (t e:Tr β)
 | Op {ι:Type} (d:U→Option ι) (o:Option ι) (k:ι→Tr β)
 | Al {ι:Type} (d:U→Option ι) (o:Option ι) (k:ι→Tr β) (n:Tr β)
 | rs (x:Int) (b:Bool) (k:Int→Tr β)
 | mp {ι κ:Type} (d:U→Option (List κ)) (f:κ→ι) (xs:List ι) (k:List κ→Tr β)
 | eq (xs ys:List AV) (k:Bool→Tr β)
noncomputable def Tr.sem{β:Type}(K:β→Hp→Prop):Tr β→Prop
 | .ret a h=>K a h
 | .no=>False
 | .rq b t=>req b (t.sem K)
 | .bs b t e=>br b (t.sem K) (e.sem K)
 | .os o k=>opt o fun a=>(k a).sem K
 | .al o k n=>alt o (fun a=>(k a).sem K) (n.sem K)
 | .Rq b t=>Mn.Rq b (t.sem K)
 | .Br b t e=>Mn.Br b (t.sem K) (e.sem K)
 | .Op _ o k=>Mn.Op o fun a=>(k a).sem K
 | .Al _ o k n=>Mn.Al o (fun a=>(k a).sem K) (n.sem K)
 | .rs x b k=>res x b fun y=>(k y).sem K
 | .mp _ f xs k=>mapK f xs fun is=>(k is).sem K
 | .eq xs ys k=>eqL xs ys fun r=>(k r).sem K
noncomputable def byKind.{u}{α:Sort u}(k:NameKind)(l c f g:α):α:=NameKind.casesOn (motive:=fun X=>α) k l c f g g
def zm3{T:Tabs}(fr:Fr)(x:Str)(h:Hp):Tr AV:= .rq (zjA x) (.os (fr.sc.names.lookup x) fun k=>byKind (α:=Tr AV) k
 (.os (h.at_ fr.L).frame? fun l=> .os (l.lookup x) fun v=> .ret v h)
 (.os (fr.cel.lookup x) fun t=> .os (h.at_ t).cell? fun v=> .os v fun v=> .ret v h)
 (.os (fr.cel.lookup x) fun t=> .os (h.at_ t).cell? fun v=> .os v fun v=> .ret v h)
 (.os ((T.glob x).or (T.blt x)) fun v=> .ret v h))
def load{T:Tabs}(fr:Fr)(x:Str)(h:Hp)(K:AV→Hp→Prop):Prop:=(zm3 (T:=T) fr x h).sem K
section
variable {T:Tabs} {P:PM T} {fr:Fr} {x:Str} {h:Hp} {K:AV→Hp→Prop} {W:Wd} {s:Shared} {env:Env} {l:List (Str×AV)}
theorem FrAt.frame{c:Cx}(F:FrAt c W h.nx env fr)(R:Rel c W h s)(e:(h.at_ fr.L).frame? = some l):∃m,s.heap.Ns env.locals m∧∀x v,l.lookup x=some v→∃u,m x=some u∧VR W h.nx v u:=
 (R.obj F.loc.1 (AO.frame?_is e) rfl).elim fun ob o=>o.2.elim fun es q=>q.elim fun ep q=>⟨nsFind es,F.loc.2▸⟨ob,es,ep,o.1,q.1,q.2.1,fun X=>rfl⟩,q.2.2⟩
theorem zi5(e:fr.sc.names.lookup x=some .local)(H:opt (h.at_ fr.L).frame? fun l=>opt (l.lookup x) fun v=>K v h):J P (FI P fr) VV (fun env=>loadName env x) h K:=fun A E Q s W env G F k=>
 H.go fun l e1 H=>H.go fun v e2 H=>(FrAt.frame F G.rel e1).elim fun m q=>(q.2 x v e2).elim fun u r=>wpAny_loadName_local F.kind ((F.kinds x _ e).elim id fun q=>nomatch q.1) q.1 r.1 (k.here G.rel r.2 H)
theorem zf5{k:NameKind}(e:fr.sc.names.lookup x=some k)(hk:k = .cell∨k = .free)(hx:(x==("__classdict__" :Str))=false)(H:opt (fr.cel.lookup x) fun t=>opt (h.at_ t).cell? fun v=>opt v fun v=>K v h):J P (FI P fr) VV (fun env=>loadName env x) h K:=fun A E Q s W env G F kn=>
 H.go fun t e1 H=>H.go fun c e2 H=>H.go fun v e3 H=>(F.cells x t e1).elim fun b1 b2=>(G.rel.obj b1 ((AO.cell?_is e2).trans (congrArg AO.cell e3)) rfl).elim fun ob o=>o.2.elim fun u q=>by
  have I:s.heap.IsCell (W.pl t) (some u):=⟨_,o.1,q.1⟩
  have z:=kn.here G.rel q.2 H (tk:=s.toks) (d:=s.drawn)
  exact (F.kinds x _ e).elim (fun y=>hk.elim (fun z'=>wpAny_loadName_cell F.kind (z'▸y) b2 I z) fun z'=>wpAny_loadName_free F.kind (z'▸y) b2 I z hx) fun y=>wpAny_loadName_cell F.kind y.2 b2 I z
theorem zf4{k:NameKind}(e:fr.sc.names.lookup x=some k)(hk:k = .globalExplicit∨k = .globalImplicit)(H:opt ((T.glob x).or (T.blt x)) fun v=>K v h):J P (FI P fr) VV (fun env=>loadName env x) h K:=fun A E Q s W env G F kn=>
 H.go fun v e1 H=>P.S.gl.elim fun m g=>P.S.bl.elim fun b b'=>by
  have g1:s.heap.Ns env.globals m:=F.glob▸zef g.1 fun o q=>G.rel.amb.base _ _ q P.S.gt
  have b1:s.heap.Ns env.builtins b:=F.blt▸zef b'.1 fun o q=>G.rel.amb.base _ _ q P.S.bt
  have red:wpAny (model P.c.prog P.c.w) A (loadGlobal env x) Q E s:=wB (wpAny_nsGet g1 (by
   induction q:T.glob x with
   | some u=>exact (g.2.1 x u q).elim fun val r=>r.1▸wP (kn.here G.rel r.2.up (sI (q▸e1:(some u).or _=_)▸H))
   | none=>
    have e1:T.blt x=some v:=(q▸e1:Option.or none _=_)
    exact g.2.2 x q (e1▸rfl)▸wB (wpAny_nsGet b1 ((b'.2 x v e1).elim fun val r=>r.1▸wP (kn.here G.rel r.2.up H)))))
  have z:k≠ .free→env.kindOf x=some k:=fun ne=>(F.kinds x _ e).elim id fun q=>absurd q.1 ne
  show wpAny _ A (loadName env x) Q E s
  rcases hk with rfl | rfl
  ·exact loadName_declared F.kind (z nofun)▸red
  ·exact loadName_read F.kind (z nofun)▸red
theorem zg7(H:load (T:=T) fr x h K):J P (FI P fr) VV (fun env=>loadName env x) h K:=H.go fun hx H=>H.go fun k e H=>by
 have hx:=Bool.not_eq_true' _▸(aI hx).2
 induction k with
 | «local» =>exact zi5 e H
 | cell=>exact zf5 e (.inl rfl) hx H
 | free=>exact zf5 e (.inr rfl) hx H
 | globalExplicit=>exact zf4 e (.inl rfl) H
 | globalImplicit=>exact zf4 e (.inr rfl) H
end
def zcH{β:Type}(fr:Fr)(x:Str)(v:AV)(h:Hp)(k:Hp→Tr β):Tr β:= .os (fr.sc.names.lookup x) fun n=>byKind (α:=Tr β) n
 (.os (h.at_ fr.L).frame? fun l=>k (h.set fr.L (.frame ((x,v) :: l))))
 (.os (fr.cel.lookup x) fun t=> .os (h.at_ t).cell? fun X=>k (h.set t (.cell (some v)))) .no .no
def zhS(fr:Fr)(x:Str)(v:AV)(h:Hp)(K:Unit→Hp→Prop):Prop:=(zcH fr x v h fun h=> .ret () h).sem K
section
variable {T:Tabs} {P:PM T} {fr:Fr} {x:Str} {h:Hp} {K:Unit→Hp→Prop} {W:Wd} {s:Shared} {env:Env} {l:List (Str×AV)} {v v':AV}
def FV(P:PM T)(fr:Fr)(v:AV)(W:Wd)(n:Nat)(p:Env×Value):Prop:=FrAt P.c W n p.1 fr∧VR W n v p.2
theorem zaH(e:fr.sc.names.lookup x=some .local)(H:opt (h.at_ fr.L).frame? fun l=>K () (h.set fr.L (.frame ((x,v) :: l)))):J P (FV P fr v) UU (fun p=>storeName p.1 x p.2) h K:=fun A E Q s W p G F k=>
 H.go fun l e1 H=>(FrAt.frame F.1 G.rel e1).elim fun m q=>wpAny_storeName_local ((F.1.kinds x _ e).elim id fun q=>nomatch q.1) q.1 (fun h' n' sb=>n'.elim fun ob n=>n.elim fun es n=>n.elim fun ep n=>by
  rw [F.1.loc.2] at n sb
  exact k (.set G.rel (k:=fr.L) (.frame ((x,v) :: l)) F.1.loc.1 (AO.frame?_is e1▸rfl) (fun X=>⟨ob,n.1,es,ep,n.2.1,n.2.2.1,fun y w z=>n.2.2.2 y▸by
   rw [List.lookup_cons] at z
   show∃u,(if y=x then some p.2 else m y)=some u∧_
   induction q':y==x with
   | true=>rw [q'] at z;exact ⟨p.2,if_pos (eq_of_beq q'),sI z▸F.2⟩
   | false=>rw [q'] at z;exact (q.2 y w z).imp fun X r=>⟨(if_neg (ne_of_beq_false q')).trans r.1,r.2⟩⟩) (fun b o e ne=>(sb.2 b ne).trans e) rfl rfl (Nat.le_of_eq sb.1.symm)) trivial H) (by rw [F.1.kind];rfl)
theorem zhR(e:fr.sc.names.lookup x=some .cell)(H:opt (fr.cel.lookup x) fun t=>opt (h.at_ t).cell? fun X=>K () (h.set t (.cell (some v)))):J P (FV P fr v) UU (fun p=>storeName p.1 x p.2) h K:=fun A E Q s W p G F k=>
 H.go fun t e1 H=>H.go fun c e2 H=>(F.1.cells x t e1).elim fun b1 b2=>(G.rel.obj b1 (AO.cell?_is e2) rfl).elim fun ob o=>
  (show∃v₀,ob.data = .cell v₀ from match c,o.2 with
   | none,q=>⟨_,q⟩
   | some _,q=>q.imp' some fun X q=>q.1).elim fun v₀ q=>wpAny_storeName_cell F.1.kind ((F.1.kinds x _ e).elim id fun q=>nomatch q.1) b2 ⟨ob,o.1,q⟩ fun h' n sb=>n.elim fun ob' n=>
   k (.set G.rel (k:=t) (.cell (some v)) b1 (AO.cell?_is e2▸rfl) (fun X=>⟨ob',n.1,p.2,n.2,F.2⟩) (fun b o e hb=>(sb.2 b hb).trans e) rfl rfl (Nat.le_of_eq sb.1.symm)) trivial H
theorem zcx{β:Type}{κ:Hp→Tr β}{K:β→Hp→Prop}(H:(zcH fr x v h κ).sem K):J P (FV P fr v) UU (fun p=>storeName p.1 x p.2) h (fun X h=>(κ h).sem K):=H.go fun k e H=>by
 induction k with
 | «local» =>exact zaH e H
 | cell=>exact zhR e H
 | _=>exact H.elim
end
noncomputable def SV.av:SV→AV
 | .none=> .none
 | .bool b=> .bool b
 | .int i=> .int i
 | .str s=> .str s
theorem SR.vr{W:Wd}{n:Nat}{x:SV}{v:Value}(h:SR x v):VR W n x.av v:=by induction x <;> exact h
def zaY(h:Hp)(a:AV):Option (Bool×List AV):=AV.casesOn (motive:=fun X=>Option (Bool×List AV)) a none (fun X=>none) (fun X=>none) (fun X=>none) (fun k=>(h.at_ k).list?) (fun X=>none) (fun X=>none) (fun X=>none) (fun X=>none) (fun xs=>some (false,xs.map SV.av)) none
noncomputable def sizeL:Nat:=2^24
noncomputable def za3(i:Int):Bool:=decide (i.natAbs.log2<1000000)
section
variable {T:Tabs} {P:PM T} {W:Wd} {h:Hp} {s:Shared} {A:Around} {E:Value→Shared→Prop} {x y:Int} {a b:AV} {β α:Type} {RR:Wd→Nat→α→β→Prop} {t:Value×Value→Sem β} {K:α→Hp→Prop}
theorem zaj{c:Cx}(R:Rel c W h s){v:Value}{p:Bool×List AV}(hv:VR W h.nx a v)(e:zaY h a=some p):∃l vs k,v = .ref l∧s.heap.get? l=some (zbY "list" vs k)∧Rs (VR W (lim p.1 h.nx)) p.2 vs.toList:=by
 induction a with
 | ref k=>exact (R.obj hv.1 (AO.list?_is e) rfl).elim fun ob o=>o.2.elim fun vs q=>q.elim fun k q=>⟨_,vs,k,hv.2,q.1▸o.1,q.2⟩
 | lst xs=>exact hv.elim fun l q=>q.elim fun vs q=>q.elim fun k q=>⟨l,vs,k,q.1,(R.fz _ _ q.2.1).2.1,sI e▸q.2.2.mapL fun X X=>SR.vr⟩
 | _=>exact no e
theorem J2.ii(f:∀A E Q s W i j,Go P W h s A→Kn P RR K W h.nx s Q→wpAny (model P.c.prog P.c.w) A (t (.int x i, .int y j)) Q E s):J P (V2 (.int x) (.int y)) RR t h K:=fun A E Q s W p G F k=>F.1.elim fun i e=>F.2.elim fun j e'=>(Prod.ext e e':p=(_,_))▸f A E Q s W i j G k
end
def zs2{β:Type}(op:Operator)(x y:Int)(k:Int→Tr β):Tr β:=Operator.casesOn (motive:=fun X=>Tr β) op
 (k (x+y)) (k (x-y)) (.rs (x*y) (za3 x&&za3 y) k) .no .no (.rs (x.fmod y) (y != 0) k)
 (.rs (x^y.toNat) (decide (0≤y)&&decide (y≤100000)&&decide (x.natAbs<2^64)) k)
 (.rs (x*2^y.toNat) (decide (0≤y)&&decide (y≤1000000)&&za3 x) k)
 (.rs (x.fdiv (2^y.toNat)) (decide (0≤y)) k) (.rs (Builtin.bitOr x y) true k) (.rs (Builtin.bitXor x y) true k) (.rs (Builtin.bitAnd x y) true k)
 (.rs (x.fdiv y) (y != 0 && !Builtin.divisionGoesByPylong x y) k)
noncomputable def zoN(op:Operator):Bool:=Operator.casesOn (motive:=fun X=>Bool) op true true true false false false false true true false false false false
noncomputable def zpc(op:Operator):Bool:=Operator.casesOn (motive:=fun X=>Bool) op true false false false false false false false false false false false false
noncomputable def zri(op:Operator):Bool:=Operator.casesOn (motive:=fun X=>Bool) op false false true false false false false false false false false false false
theorem zh9{op:Operator}(h:zpc op=true):op = .Add:=by induction op <;> first | rfl | cases h
theorem zml{op:Operator}(h:zri op=true):op = .Mult:=by induction op <;> first | rfl | cases h
section
variable {T:Tabs} {P:PM T} {W:Wd} {h:Hp} {s:Shared} {A:Around} {E:Value→Shared→Prop} {x y:Int} {a b:AV} {K:AV→Hp→Prop} {op:Operator}
def JB(P:PM T)(a b:AV)(h:Hp)(K:AV→Hp→Prop)(op:Operator):Prop:=J P (V2 a b) VV (fun p=>binaryOp op p.1 p.2) h K∧(zoN op=true→J P (V2 a b) VV (fun p=>inplaceOp op p.1 p.2) h K)
theorem zb1{x:Int}(h:za3 x=true):Builtin.Int.intBits x≤1000000:=by
 have h:=oD h
 unfold Builtin.Int.intBits
 split
 ·exact Nat.zero_le _
 ·exact h
theorem zgW(h:(za3 x&&za3 y)=true):IntMulOk x y:=by
 have h:=aI h
 have b1:=zb1 h.1
 have b2:=zb1 h.2
 unfold IntMulOk Builtin.Int.intTooBig
 intro q
 have:=oD (aI q).2
 rw [show bitsLine=134217728 from rfl] at this
 lia
theorem zlH(h2:x.natAbs<2^64):Builtin.Int.intBits x≤64:=by
 unfold Builtin.Int.intBits
 split
 ·exact Nat.zero_le _
 ·rename_i hx
  exact (Nat.log2_lt (fun q=>hx (by simpa using Int.natAbs_eq_zero.mp q))).mpr h2
theorem zlG(h0:0≤y)(h1:y≤100000)(h2:x.natAbs<2^64):(Builtin.Int.intBits x:Int)*y≤2^27:=by
 have hb:=zlH h2
 have h1:(Builtin.Int.intBits x:Int)*y≤64*100000:=Int.mul_le_mul (by lia) h1 h0 (by lia)
 exact Int.le_trans h1 (by decide)
theorem Kn.int{Q:Value→Shared→Prop}(k:Kn P VV K W h.nx s Q)(G:Go P W h s A){z:Int}(q:K (.int z) h){u tk:Nat}{d:Drawn}:Q (.int z u) {s with toks:=tk,drawn:=d}:=k.here G.rel (v:= .int z) ⟨u,rfl⟩ q
theorem zpQ(H:(zs2 op x y fun z=> .ret (.int z) h).sem K):JB P (.int x) (.int y) h K op:=by
 induction op with
 | Add=>exact ⟨J2.ii fun A E Q s W i j G k=>add_int (k.int G H),fun X=>J2.ii fun A E Q s W i j G k=>PySem.P.iadd_int (k.int G H)⟩
 | Sub=>exact ⟨J2.ii fun A E Q s W i j G k=>sub_int (k.int G H),fun X=>J2.ii fun A E Q s W i j G k=>PySem.P.isub_int (k.int G H)⟩
 | Mult=>exact H.go fun e H=>⟨J2.ii fun A E Q s W i j G k=>mul_int (k.int G H) (zgW e),fun X=>J2.ii fun A E Q s W i j G k=>PySem.P.imul_int (k.int G H) (zgW e)⟩
 | FloorDiv=>exact H.go fun e H=>⟨J2.ii fun A E Q s W i j G k=>floordiv_int (bne_iff_ne.mp (aI e).1) (k.int G H) (.inl (Bool.not_eq_true' _▸(aI e).2)),nofun⟩
 | Mod=>exact H.go fun e H=>⟨J2.ii fun A E Q s W i j G k=>mod_int' (bne_iff_ne.mp e) (k.int G H),nofun⟩
 | Pow=>
   refine H.go fun e H=>?_
   simp only [Bool.and_eq_true,decide_eq_true_eq] at e
   exact ⟨J2.ii fun A E Q s W i j G k=>pow_int e.1.1 (zlG e.1.1 e.1.2 e.2) (k.int G H),nofun⟩
 | LShift=>
   refine H.go fun e H=>?_
   simp only [Bool.and_eq_true,decide_eq_true_eq] at e
   have b:=zb1 e.2
   exact ⟨J2.ii fun A E Q s W i j G k=>lshift_int e.1.1 (by lia) (k.int G H),fun X=>J2.ii fun A E Q s W i j G k=>PyProof.Rows.ilshift_int e.1.1 (by lia) (k.int G H)⟩
 | RShift=>exact H.go fun e H=>⟨J2.ii fun A E Q s W i j G k=>rshift_int (oD e) (k.int G H),fun X=>J2.ii fun A E Q s W i j G k=>PyProof.Rows.irshift_int (oD e) (k.int G H)⟩
 | BitAnd=>exact H.go fun X H=>⟨J2.ii fun A E Q s W i j G k=>and_int (k.int G H),nofun⟩
 | BitOr=>exact H.go fun X H=>⟨J2.ii fun A E Q s W i j G k=>or_int (k.int G H),nofun⟩
 | BitXor=>exact H.go fun X H=>⟨J2.ii fun A E Q s W i j G k=>xor_int (k.int G H),nofun⟩
 | _=>exact H.elim
end
theorem za4(x:List Nat):(strOf x).length=x.length:=by simp [strOf,Str.length]
theorem zaR(x y:List Nat):strOf x++strOf y=strOf (x++y):=by
 show Str.append _ _=_
 simp [strOf,Str.append]
theorem zkf{α:Type}(x:List α):∀(k:Nat) (acc:Array α),(List.replicate k x.toArray).foldl (· ++ ·) acc=(acc.toList++(List.replicate k x).flatten).toArray:=by
 intro k
 induction k with
 | zero=>intro acc;simp
 | succ k ih=>intro acc;rw [List.replicate_succ,List.foldl_cons,ih,List.replicate_succ];simp
theorem Rs.reps{α β:Type}{R:α→β→Prop}{xs:List α}{vs:List β}(h:Rs R xs vs):∀k,Rs R (List.replicate k xs).flatten (List.replicate k vs).flatten
 | 0=> .nil
 | k+1=>by rw [List.replicate_succ,List.replicate_succ];exact h.app (reps h k)
def nuL(f:Bool)(xs:List AV)(h:Hp)(K:AV→Hp→Prop):Prop:=K (.ref h.nx) (h.new (.list f xs))
def nuT(f:Bool)(xs:List AV)(h:Hp):Tr AV:= .ret (.ref h.nx) (h.new (.list f xs))
def zpP(op:Operator)(a b:AV)(h:Hp)(p:Tr AV):Tr AV:= .al a.int? (fun x=> .os b.int? fun y=>zs2 op x y fun z=> .ret (.int z) h)
 (.al a.str? (fun x=> .rq (zpc op) (.os b.str? fun y=> .Rq (Nat.ble (x.length+y.length) sizeL) (.ret (.str (x++y)) h))) p)
def zuC(op:Operator)(a b:AV)(h:Hp):Tr AV:=zpP op a b h (.os (zaY h a) fun p=>
 .bs (zpc op) (.os (zaY h b) fun q=> .Rq (Nat.ble (p.2.length+q.2.length) sizeL) (nuT (p.1 || q.1) (p.2++q.2) h))
  (.rq (zri op) (.os b.int? fun y=> .Rq (Nat.ble (p.2.length*y.toNat) sizeL&&decide (y.natAbs<2^62)) (nuT p.1 (List.replicate y.toNat p.2).flatten h))))
def zsz(op:Operator)(a b:AV)(h:Hp):Tr AV:= .rq (zoN op) (zpP op a b h .no)
def bin(op:Operator)(a b:AV)(h:Hp)(K:AV→Hp→Prop):Prop:=(zuC op a b h).sem K
def aug(op:Operator)(a b:AV)(h:Hp)(K:AV→Hp→Prop):Prop:=(zsz op a b h).sem K
section
variable {T:Tabs} {P:PM T} {W:Wd} {h:Hp} {s:Shared} {A:Around} {E:Value→Shared→Prop} {x y:List Nat} {a b:AV} {K:AV→Hp→Prop} {op:Operator} {i:Int} {p q:Bool×List AV}
theorem ble{a b:Nat}(h:Nat.ble a b=true):a≤b:=jL h
theorem Kn.str{Q:Value→Shared→Prop}(k:Kn P VV K W h.nx s Q)(G:Go P W h s A){z:List Nat}(q:K (.str z) h){u tk:Nat}{d:Drawn}:Q (.str (strOf z) u) {s with toks:=tk,drawn:=d}:=k.here G.rel (v:= .str z) ⟨u,rfl⟩ q
theorem Kn.list{Q:Value→Shared→Prop}(k:Kn P VV K W h.nx s Q)(G:Go P W h s A){f:Bool}{xs:List AV}{vs:Array Value}(hv:Rs (VR W (lim f h.nx)) xs vs.toList)(q:nuL f xs h K){n:Nat}{tk:Nat}{d:Drawn}:Q (.ref s.heap.objs.size) {s with heap:=s.heap.push (zbY "list" vs n),toks:=tk,drawn:=d}:=
 k.nu G.rel (o:= .list f xs) rfl (fun X L=>⟨_,_,rfl,VR.ups (L.lim f) hv⟩) q
theorem zrL(hl:Nat.ble (x.length+y.length) sizeL=true)(H:K (.str (x++y)) h):JB P (.str x) (.str y) h K .Add:=by
 have hl':(strOf x).length+(strOf y).length≤2^24:=by rw [za4,za4];exact ble hl
 exact ⟨fun A E Q s W v G F k=>F.1.elim fun t e=>F.2.elim fun u e'=>by
   show wpAny _ A (binaryOp .Add v.1 v.2) Q E s
   rw [e,e']
   exact PyProof.Rows.add_str (fun X X=>zaR x y▸k.str G H) hl',
  fun X A E Q s W v G F k=>F.1.elim fun t e=>F.2.elim fun u e'=>by
   show wpAny _ A (inplaceOp .Add v.1 v.2) Q E s
   rw [e,e']
   exact PySem.SB.iadd (fun X X=>zaR x y▸k.str G H) hl'⟩
theorem zpH(e1:zaY h a=some p)(e2:zaY h b=some q)(hl:Nat.ble (p.2.length+q.2.length) sizeL=true)(H:nuL (p.1 || q.1) (p.2++q.2) h K):J P (V2 a b) VV (fun v=>binaryOp .Add v.1 v.2) h K:=fun A E Q s W v G F k=>
 (zaj G.rel F.1 e1).elim fun l z=>z.elim fun vs z=>z.elim fun n z=>(zaj G.rel F.2 e2).elim fun l' z'=>z'.elim fun us z'=>z'.elim fun m z'=>by
  show wpAny _ A (binaryOp .Add v.1 v.2) Q E s
  rw [z.1,z'.1]
  refine PySem.P.add_list z.2.1 z'.2.1 (k.list G (tk:=s.toks) (d:=s.drawn) ?_ H) (by rw [←Array.length_toList,←Array.length_toList,←z.2.2.len,←z'.2.2.len];exact ble hl)
  have up:∀f g,Le (lim f h.nx) W (lim (f || g) h.nx) W:=fun f g=>by induction f;exact ⟨Nat.zero_le _,fun X X=>rfl,fun X X e=>e⟩;exact .refl
  rw [Array.toList_append]
  exact (VR.ups (up p.1 q.1) z.2.2).app (VR.ups (Bool.or_comm q.1 p.1▸up q.1 p.1) z'.2.2)
theorem zoB(e1:zaY h a=some p)(hl:(Nat.ble (p.2.length*i.toNat) sizeL&&decide (i.natAbs<2^62))=true)(H:nuL p.1 (List.replicate i.toNat p.2).flatten h K):J P (V2 a (.int i)) VV (fun v=>binaryOp .Mult v.1 v.2) h K:=fun A E Q s W v G I k=>
 (zaj G.rel I.1 e1).elim fun l z=>z.elim fun vs z=>z.elim fun n z=>I.2.elim fun u e=>by
  show wpAny _ A (binaryOp .Mult v.1 v.2) Q E s
  rw [z.1,e]
  have hl:=aI hl
  have hy:=oD hl.2
  have hz1:vs.size*i.toNat≤2^24:=by rw [←Array.length_toList,←z.2.2.len];exact ble hl.1
  refine wpAny_binaryOp_repeat_ref (T:= "list") (U:= "int") (by decide) ⟨_,z.2.1,rfl⟩ (fun s'=>typeIs_int s' i u) noFill_list_mul F.fills_int_mul F.slot_int_rmul repeat_list F.slot_int_index.lookup
   (call_meets F.slot_int_rmul (typeIs_int s i u) F.entry_int_rmul (F.args_int_rmul_2 _ _) (int___rmul___int_list i u l vs n)
    ⟨z.2.1,rfl,⟨_,z.2.1,rfl⟩,call_meets F.slot_list_mul ⟨_,z.2.1,rfl⟩ F.entry_list_mul (F.args_list_mul_2 _ _)
     (AutoListH.list___mul___list_int_3 l vs n i u (by simp [Builtin.List.listFitsIndex];omega) (by omega) (by simp [Builtin.List.listTooLong,sizeLine];omega)) ⟨z.2.1,k.list G (tk:=s.toks) (d:=s.drawn) (n:=0) ?_ H⟩⟩)
  have e:((List.replicate (if vs.isEmpty=true then 0 else i.toNat) vs).foldl (· ++ ·) #[]).toList=(List.replicate i.toNat vs.toList).flatten:=by
   have:=zkf vs.toList (if vs.isEmpty=true then 0 else i.toNat) #[]
   rw [show vs.toList.toArray=vs from by simp] at this
   rw [this]
   by_cases hv:vs.isEmpty=true
   ·obtain rfl:vs = #[]:=by simpa using hv
    simp
   ·rw [if_neg hv];simp
  exact e▸z.2.2.reps _
theorem zhB{p:Tr AV}(H:(zpP op a b h p).sem K)(f:p.sem K→J P (V2 a b) VV (fun v=>binaryOp op v.1 v.2) h K):J P (V2 a b) VV (fun v=>binaryOp op v.1 v.2) h K∧(¬p.sem K→zoN op=true→J P (V2 a b) VV (fun v=>inplaceOp op v.1 v.2) h K):=
 H.go (fun X e H=>H.go fun X e' H=>AV.int?_is e▸AV.int?_is e'▸(zpQ H).imp id fun x X=>x) fun X H=>H.go (fun X e H=>H.go fun o H=>H.go fun X e' H=>H.go fun l H=>AV.str?_is e▸AV.str?_is e'▸zh9 o▸(zrL l H).imp id fun x X=>x) fun X H=>⟨f H,fun q=>absurd H q⟩
theorem zs1(H:bin op a b h K):J P (V2 a b) VV (fun v=>binaryOp op v.1 v.2) h K:=
 (zhB H fun H=>H.go fun X e H=>H.go (fun o H=>H.go fun X e' H=>H.go fun l H=>zh9 o▸zpH e e' l H) fun X H=>H.go fun o H=>H.go fun X e' H=>H.go fun l H=>zml o▸AV.int?_is e'▸zoB e l H).1
theorem zkU(H:aug op a b h K):J P (V2 a b) VV (fun v=>inplaceOp op v.1 v.2) h K:=H.go fun o H=>(zhB H False.elim).2 id o
end
theorem nb{P:Prop}(h:false=true):P:=nomatch h
noncomputable def isNone(a:AV):Bool:=AV.casesOn (motive:=fun X=>Bool) a true (fun X=>false) (fun X=>false) (fun X=>false) (fun X=>false) (fun X=>false) (fun X=>false) (fun X=>false) (fun X=>false) (fun X=>false) false
theorem zd1{a:AV}:isNone a=true→a = .none:=AV.casesOn (motive:=fun a=>isNone a=true→a = .none) a (fun X=>rfl) (fun X=>nb) (fun X=>nb) (fun X=>nb) (fun X=>nb) (fun X=>nb) (fun X=>nb) (fun X=>nb) (fun X=>nb) (fun X=>nb) nb
def zaU{β:Type}(a:AV)(h:Hp)(K:Bool→Hp→Tr β):Tr β:=AV.casesOn (motive:=fun X=>Tr β) a (K false h) (fun b=>K b h) (fun i=>K (i != 0) h) (fun s=>Tr.Rq (Nat.ble s.length sizeL) (K (!s.isEmpty) h))
 (fun k=>Tr.al (h.at_ k).set? (fun xs=>Tr.Rq (Nat.ble xs.length sizeL) (K (!xs.isEmpty) h)) (Tr.os (h.at_ k).list? fun p=>Tr.Rq (Nat.ble p.2.length sizeL) (K (!p.2.isEmpty) h))) (fun X=> .no) (fun X=> .no) (fun X=> .no) (fun X=> .no)
 (fun xs=>Tr.Rq (Nat.ble xs.length sizeL) (K (!xs.isEmpty) h)) .no
def zqs(a:AV)(h:Hp)(K:Bool→Hp→Prop):Prop:=(zaU a h .ret).sem K
section
variable {T:Tabs} {P:PM T} {W:Wd} {h:Hp} {s:Shared} {A:Around} {E:Value→Shared→Prop} {a b:AV} {K:AV→Hp→Prop} {B:Bool→Hp→Prop}
theorem Kn.bool{Q:Bool→Shared→Prop}(k:Kn P BB B W h.nx s Q)(R:Rel P.c W h s){b:Bool}(q:B b h){tk:Nat}{d:Drawn}:Q b {s with toks:=tk,drawn:=d}:=k (.same R rfl rfl rfl) rfl q
theorem ziY{α:Type}(xs:List α):((xs.length:Int) != 0) = !xs.isEmpty:=by
 induction xs using cL with
 | nil=>rfl
 | cons X r=>exact bne_iff_ne.mpr fun e=>nomatch Int.ofNat.inj e
theorem Rs.size{α:Type}{R:α→Value→Prop}{xs:List α}{vs:Array Value}(h:Rs R xs vs.toList):xs.length=vs.size:=h.len
theorem fit{n:Nat}(h:Nat.ble n sizeL=true):(n:Int)<2^63:=Int.lt_of_le_of_lt (Int.ofNat_le.mpr (ble h)) (by decide)
theorem znc{α:Type}{R:α→Value→Prop}{xs:List α}{vs:Array Value}{l:Addr}{n:Nat}{Q:Bool→Shared→Prop}(hl:s.heap.get? l=some (zbY "list" vs n))(r:Rs R xs vs.toList)(e:Nat.ble xs.length sizeL=true)(q:Q (!xs.isEmpty) {s with toks:=s.toks+1+1}):wpAny (model P.c.prog P.c.w) A (truthy (.ref l)) Q E s:=
 wpAny_truthy_list ⟨_,hl,rfl,_,rfl⟩ (r.size▸fit e) (by
  have:vs.isEmpty=xs.isEmpty:=by
   rw [Array.isEmpty,←r.size];induction xs using cL <;> rfl
  rw [this];exact q)
theorem zi2:typeLookup (.type "set") "__bool__" =pure none:=by rw [typeLookup_type,builtinLookup_eq_fast];kernel_rfl
theorem zhJ{α:Type}{xs:List α}{a:Addr}{es:Array (Int×Value)}{ep:Nat}{t:SetTable}{Q:Bool→Shared→Prop}(ho:s.heap.get? a=some {cls:= .type "set",data:= .set es ep t})(hf:t.fits es.size=true)(hz:es.toList.length=xs.length)(e:Nat.ble xs.length sizeL=true)
  (q:Q (!xs.isEmpty) {s with toks:=s.toks+1+1}):wpAny (model P.c.prog P.c.w) A (truthy (.ref a)) Q E s:=by
 have hT:s.TypeIs (.ref a) "set" :=⟨_,ho,rfl⟩
 have hz:es.size=xs.length:=hz
 refine wB (wpAny_callSpecial?_none (name:=Str.ofString "__bool__") hT zi2 (wB (wpAny_specialOf (name:=Str.ofString "__len__") hT PySem.F.slot_set_len.lookup (wB (wpAny_runValue (codeAny_builtin entry_len ?_))))))
 rw [Around.under_plainId plain_len _]
 refine wpAny_mono (wpAny_len_body_set (Q:=fun r s'=>r = .int es.size (s.toks+1)∧Q ((es.size:Int) != 0) s') ho ⟨rfl,rfl,rfl⟩ rfl hf (hz▸fit e) ⟨rfl,by rw [hz,ziY];exact q⟩) (fun fin s' h'=>h'.elim fun r h=>h.1▸h.2.1▸wP h.2.2) fun X X e=>e
theorem zcw{β:Type}{κ:Bool→Hp→Tr β}{B:β→Hp→Prop}(H:(zaU a h κ).sem B):J P (V1 a) BB (fun v=>truthy v) h (fun b h=>(κ b h).sem B):=fun A E Q s W v G I k=>by
 show wpAny _ A (truthy v) Q E s
 induction a with
 | none=>exact I▸truthy_none (k.bool G.rel H)
 | bool b=>exact I▸wpAny_truthy_bool (k.bool G.rel H)
 | int i=>exact I.elim fun t e=>e▸PySem.P.truthy_int (k.bool G.rel H)
 | str z=>exact I.elim fun t e=>e▸H.go fun l H=>PySem.P.truthy_str (by rw [za4];exact Int.not_le.mpr (fit l)) (by rw [za4,ziY];exact k.bool G.rel H)
 | ref r=>exact H.go (fun xs e H=>(G.rel.obj I.1 (AO.set?_is e) rfl).elim fun ob o=>o.2.elim fun es q=>q.elim fun ep q=>q.elim fun t q=>H.go fun l H=>I.2▸zhJ (q.1▸o.1) q.2.1 (q.2.2.1.elim fun ys y=>(List.length_map (as:=es.toList) (·.2)).symm.trans (y.2.len.symm.trans y.1.length_eq)) l (k.bool G.rel H)) (fun X H=>H.go fun p e H=>(zaj (a:= .ref r) G.rel I e).elim fun l z=>z.elim fun vs z=>z.elim fun n z=>z.1▸H.go fun l H=>znc z.2.1 z.2.2 l (k.bool G.rel H))
 | lst xs=>exact H.go fun l H=>I.elim fun a z=>z.elim fun vs z=>z.elim fun n z=>z.1▸znc (G.rel.fz _ _ z.2.1).2.1 z.2.2 l (k.bool G.rel H)
 | _=>exact H.elim
end
noncomputable def TY.n(t:TY):Nat:=TY.casesOn (motive:=fun X=>Nat) t 0 1 2 3 4 5 6 7
def TY.no(s:String):Nat:=if s= "int" then 0 else if s= "str" then 1 else if s= "range" then 2 else if s= "list" then 3 else if s= "set" then 4 else if s= "enumerate" then 5 else if s= "reversed" then 6 else 7
def TY.of(n:Nat):TY:=[TY.int, .str, .range, .list, .set, .enumerate, .reversed, .type].getD n .type
theorem TY.eq(a b:TY):(Value.type a.id==Value.type b.id)=Nat.beq a.n b.n:=by
 have h1:∀a:TY,TY.no a.id=a.n:=fun a=>by induction a <;> decide
 have h2:∀a:TY,TY.of a.n=a:=fun a=>by induction a <;> rfl
 rw [Bool.eq_iff_iff,beq_iff_eq]
 exact ⟨fun e=>by rw [←h1 a,←h1 b,Value.type.inj e,Nat.beq_refl],fun e=>by rw [←h2 a,←h2 b,qB e]⟩
def zkC{β:Type}(a b:AV)(h:Hp)(k:Bool→Tr β):Tr β:= .al a.int? (fun x=> .os b.int? fun y=>k (x==y)) (.al a.str? (fun x=> .os b.str? fun y=>k (x==y)) (.al a.bool? (fun x=> .os b.bool? fun y=>k (x==y)) (.os (zaY h a) fun p=> .os (zaY h b) fun q=> .eq p.2 q.2 k)))
noncomputable def nst(o:Option (List Nat)):AV:=Option.casesOn (motive:=fun X=>AV) o .none .str
def ztr{β:Type}(a:AV)(ys:List AV)(k:Bool→Tr β):Tr β:= .al a.int? (fun i=> .mp U.li? .int ys fun zs=>k (zs.any (· == i))) (.al a.str? (fun t=> .mp U.ls? .str ys fun zs=>k (zs.any (· == t))) (.rq (isNone a) (.mp U.lo? nst ys fun zs=>k (zs.any Option.isNone))))
noncomputable def one(l:List Nat):Option Nat:=List.casesOn (motive:=fun X=>Option Nat) l none fun c r=>bif r.isEmpty then some c else none
def zkB{β:Type}(T:Tabs)(a b:AV)(h:Hp)(k:Bool→Tr β):Tr β:= .al b.str? (fun y=> .os a.str? fun x=> .os (one x) fun c=>k (decide (c∈y)))
 (.al b.glob? (fun g=> .os a.int? fun i=> .os (T.intSet g) fun is=>k (is.contains i))
 (.al b.tup? (fun xs=>ztr a (xs.map SV.av) k)
 (.al (b.ref?.bind fun t=>(h.at_ t).set?) (fun xs=> .rq (xs.isEmpty&&a.int?.isSome) (k false)) (.os (zaY h b) fun p=>ztr a p.2 k))))
def zkA{β:Type}(a b:AV)(k:Bool→Tr β):Tr β:= .bs (isNone b) (k (isNone a)) (.al b.bool? (fun y=> .os a.bool? fun x=>k (x==y)) (.os b.ty? fun y=> .os a.ty? fun x=>k (Nat.beq x.n y.n)))
def ztG(T:Tabs)(op:CmpOp)(a b:AV)(h:Hp):Tr AV:=CmpOp.casesOn (motive:=fun X=>Tr AV) op
 (zkC a b h fun r=> .ret (.bool r) h) (zkC a b h fun r=> .ret (.bool !r) h)
 (.os a.int? fun x=> .os b.int? fun y=> .ret (.bool (decide (x<y))) h) (.os a.int? fun x=> .os b.int? fun y=> .ret (.bool (decide (x≤y))) h)
 (.os a.int? fun x=> .os b.int? fun y=> .ret (.bool (decide (y<x))) h) (.os a.int? fun x=> .os b.int? fun y=> .ret (.bool (decide (y≤x))) h)
 (zkA a b fun r=> .ret (.bool r) h) (zkA a b fun r=> .ret (.bool !r) h)
 (zkB T a b h fun r=> .ret (.bool r) h) (zkB T a b h fun r=> .ret (.bool !r) h)
def cmp(T:Tabs)(op:CmpOp)(a b:AV)(h:Hp)(K:AV→Hp→Prop):Prop:=(ztG T op a b h).sem K
section
variable {T:Tabs} {P:PM T} {W:Wd} {h:Hp} {s:Shared} {A:Around} {E:Value→Shared→Prop} {a b:AV} {K:AV→Hp→Prop} {k:Bool→Prop} {va vb:Value} {xs ys:List AV} {vs us:List Value} {n:Nat}
theorem strOf_beq{x y:List Nat}:(strOf x==strOf y)=(x==y):=by
 rw [Bool.eq_iff_iff,beq_iff_eq,beq_iff_eq]
 exact ⟨fun h=>by simpa [strOf] using congrArg (fun z:Str=>z.cps.toList) h,fun e=>e▸rfl⟩
theorem zlu{l:List Nat}(h:zgk l):PyData.strOk (strOf l)=true:=by
 unfold PyData.strOk strOf
 rw [Array.all_eq_true_iff_forall_mem]
 exact fun c hc=>decide_eq_true (h c (by simpa using hc))
def EqD(A:Around)(s:Shared)(v u:Value)(r:Bool):Prop:=RcAt A s v u r∧RcNeAt A s v u !r
theorem zjb{hp:Heap}:∀{a:List (List Nat)} {vs:List Value},Rs (VR W n) (a.map .str) vs→∃as,ReadsAll hp vs (a.map fun s=> .str (strOf s)) as
 | [],_, .nil=>⟨_, .nil⟩
 | _ :: _,_, .cons h r=>h.elim fun t e=>(zjb r).elim fun as q=>⟨[]++as, .cons (e▸Reads.str _ t) q⟩
theorem zjc{hp:Heap}:∀{a:List Int} {vs:List Value},Rs (VR W n) (a.map .int) vs→∃as,ReadsAll hp vs (a.map .int) as
 | [],_, .nil=>⟨_, .nil⟩
 | _ :: _,_, .cons h r=>h.elim fun t e=>(zjc r).elim fun as q=>⟨[]++as, .cons (e▸Reads.int _ t) q⟩
theorem ztm:∀{a:List (List Nat)},(∀s∈a,zgk s)→PyData.canLayAll0 (a.map fun s=> .str (strOf s))=true∧PyData.depthAll (a.map fun s=> .str (strOf s))=0
 | [],_=>⟨by simp [PyData.canLayAll0],rfl⟩
 | s :: a,h=>by
  have ih:=ztm fun x hx=>h x (mM _ hx)
  exact ⟨by rw [List.map_cons,PyData.canLayAll0,PyData.canLay0,zlu (h s mS),ih.1];rfl,by show max 0 (PyData.depthAll _)=0;rw [ih.2];rfl⟩
theorem zsp:∀a:List Int,PyData.canLayAll0 (a.map .int)=true∧PyData.depthAll (a.map .int)=0
 | []=>⟨by simp [PyData.canLayAll0],rfl⟩
 | s :: a=>⟨by rw [List.map_cons,PyData.canLayAll0,PyData.canLay0,(zsp a).1];rfl,by show max 0 (PyData.depthAll _)=0;rw [(zsp a).2];rfl⟩
theorem zuq:∀a b:List (List Nat),PyData.eqvAll (a.map fun s=>PyData.str (strOf s)) (b.map fun s=>PyData.str (strOf s))=(a==b)
 | [], [] | [],_ :: _ | _ :: _, []=>by simp [PyData.eqvAll]
 | x :: a,y :: b=>by rw [List.map_cons,List.map_cons,PyData.eqvAll,PyData.eqv,zuq a b,strOf_beq];rfl
theorem zur:∀a b:List Int,PyData.eqvAll (a.map PyData.int) (b.map PyData.int)=(a==b)
 | [], [] | [],_ :: _ | _ :: _, []=>by simp [PyData.eqvAll]
 | x :: a,y :: b=>by rw [List.map_cons,List.map_cons,PyData.eqvAll,PyData.eqv,zur a b];rfl
theorem znH{l l':Addr}{vs us:Array Value}{m m':Nat}{d e:List PyData}(G:Go P W h s A)(hl:s.heap.get? l=some (zbY "list" vs m))(hr:s.heap.get? l'=some (zbY "list" us m'))(rd:∃as,ReadsAll s.heap vs.toList d as)(re:∃as,ReadsAll s.heap us.toList e as)
  (hd:PyData.canLayAll0 d=true∧PyData.depthAll d=0) (he:PyData.canLayAll0 e=true):EqD A s (.ref l) (.ref l') (PyData.eqvAll d e):=by
 have d1:(PyData.list d).depth=1:=by show PyData.depthAll d+1=1;rw [hd.2]
 have hu:A.units+min (PyData.list d).depth (PyData.list e).depth<cLine:=by rw [d1];have:=Nat.min_le_left 1 (PyData.list e).depth;have:=G.u;lia
 have e0:PyData.eqv (.list d) (.list e)=PyData.eqvAll d e:=by rw [PyData.eqv]
 have ca:(PyData.list d).canLay0=true:=by rw [PyData.canLay0];exact hd.1
 have cb:(PyData.list e).canLay0=true:=by rw [PyData.canLay0];exact he
 exact rd.elim fun as r1=>re.elim fun bs r2=>e0▸⟨rcAt_reads (.list hl rfl rfl r1) (.list hr rfl rfl r2) ca cb hu,rcNeAt_reads (.list hl rfl rfl r1) (.list hr rfl rfl r2) ca cb hu⟩
theorem zhv{k:Bool→Tr AV}(H:(zkC a b h k).sem K)(G:Go P W h s A)(ha:VR W h.nx a va)(hb:VR W h.nx b vb):∃r,(k r).sem K∧EqD A s va vb r:=
 H.go (fun x e H=>H.go fun y e' H=>⟨_,H,by
  obtain ⟨t,rfl⟩:=(AV.int?_is e▸ha:VR _ _ (.int x) va)
  obtain ⟨u,rfl⟩:=(AV.int?_is e'▸hb:VR _ _ (.int y) vb)
  exact ⟨RcAt.int_int _ _ _ _,RcNeAt.int_int _ _ _ _⟩⟩) fun X H=>H.go (fun x e H=>H.go fun y e' H=>⟨_,H,by
  obtain ⟨t,rfl⟩:=(AV.str?_is e▸ha:VR _ _ (.str x) va)
  obtain ⟨u,rfl⟩:=(AV.str?_is e'▸hb:VR _ _ (.str y) vb)
  exact strOf_beq (x:=x)▸⟨RcAt.str_str _ _ _ _,RcNeAt.str_str _ _ _ _⟩⟩) fun X H=>H.go (fun x e H=>H.go fun y e' H=>⟨_,H,(AV.bool?_is e▸ha:VR _ _ (.bool x) va)▸(AV.bool?_is e'▸hb:VR _ _ (.bool y) vb)▸⟨RcAt.bool_bool _ _,RcNeAt.bool_bool _ _⟩⟩) fun X H=>H.go fun p e H=>H.go fun q e' H=>by
  obtain ⟨l,vs,m,rfl,l1,l2⟩:=zaj G.rel ha e
  obtain ⟨l',us,m',rfl,r1,r2⟩:=zaj G.rel hb e'
  rcases H with ⟨ne,H⟩ | ⟨x,y,ex,ey,cx,cy,H⟩ | ⟨x,y,ex,ey,H⟩
  ·have z:(vs.size != us.size)=true:=by rw [←l2.size,←r2.size];exact bne_iff_ne.mpr fun z=>by rw [z,Nat.beq_refl] at ne;cases ne
   exact ⟨_,H,RcAt.lists_lengths ⟨_,l1,rfl,_,rfl⟩ ⟨_,r1,rfl,_,rfl⟩ z (lE (Nat.le_add_right _ _) G.u),RcNeAt.lists_lengths ⟨_,l1,rfl,_,rfl⟩ ⟨_,r1,rfl,_,rfl⟩ z (lE (Nat.le_add_right _ _) G.u)⟩
  ·rw [ex] at l2;rw [ey] at r2
   exact ⟨_,H,zuq x y▸znH G l1 r1 (zjb l2) (zjb r2) (ztm cx) (ztm cy).1⟩
  ·rw [ex] at l2;rw [ey] at r2
   exact ⟨_,H,zur x y▸znH G l1 r1 (zjc l2) (zjc r2) (zsp x) (zsp y).1⟩
noncomputable def zsh(i:Int)(v:Value):Bool:=Value.casesOn (motive:=fun X=>Bool) v false false false (fun X=>false) (fun j X=>j==i) (fun X X=>false) (fun X X=>false) (fun X X=>false) (fun X=>false) (fun X=>false) (fun X=>false)
def veqS(i:List Nat)(v:Value):Bool:=Value.casesOn (motive:=fun X=>Bool) v false false false (fun X=>false) (fun X X=>false) (fun X X=>false) (fun z X=>z==strOf i) (fun X X=>false) (fun X=>false) (fun X=>false) (fun X=>false)
noncomputable def veqN(v:Value):Bool:=Value.casesOn (motive:=fun X=>Bool) v true false false (fun X=>false) (fun X X=>false) (fun X X=>false) (fun X X=>false) (fun X X=>false) (fun X=>false) (fun X=>false) (fun X=>false)
theorem zkW{α:Type}{f:α→AV}{e:Value→Bool}{r:α→Bool}{u:Value}(i:∀x v,VR W n (f x) v→EqAt A s v u (e v)∧e v=r x):∀{zs:List α} {vs:List Value},Rs (VR W n) (zs.map f) vs→(∀y,y∈vs→EqAt A s y u (e y))∧vs.any e=zs.any r
 | [],_, .nil=>⟨fun X h=>(nomatch h),rfl⟩
 | _ :: _,_, .cons a t=>⟨fun y h=>(cP h).elim (fun q=>q▸(i _ _ a).1) ((zkW i t).1 y),by rw [List.any_cons,List.any_cons,(i _ _ a).2,(zkW i t).2]⟩
theorem znC{k:Bool→Tr AV}(H:(ztr a ys k).sem K)(ha:VR W n a va){vs:Array Value}(r:Rs (VR W n) ys vs.toList):∃e:Value→Bool,(∀y,y∈vs→EqAt A s y va (e y))∧(k (vs.any e)).sem K:=by
 have fin:∀{α:Type} {f:α→AV} {e:Value→Bool} {r':α→Bool} {zs:List α},(∀x v,VR W n (f x) v→EqAt A s v va (e v)∧e v=r' x)→ys=zs.map f→(k (zs.any r')).sem K→∃e:Value→Bool,(∀y,y∈vs→EqAt A s y va (e y))∧(k (vs.any e)).sem K:=fun {α f e r' zs} i q H=>by
  have:=zkW i (q▸r)
  exact ⟨e,fun y h=>this.1 y (Array.mem_toList_iff.mpr h),by rw [←Array.any_toList,this.2];exact H⟩
 exact H.go (fun x e H=>H.ex.elim fun zs q=>(AV.int?_is e▸ha:VR _ _ (.int x) va).elim fun t et=>fin (f:= .int) (e:=zsh x) (fun y v h=>h.elim fun u eu=>by subst et eu;exact ⟨EqAt.int_int _ _ _ _,rfl⟩) q.1 q.2)
  fun X H=>H.go (fun x e H=>H.ex.elim fun zs q=>(AV.str?_is e▸ha:VR _ _ (.str x) va).elim fun t et=>fin (f:= .str) (e:=veqS x) (fun y v h=>h.elim fun u eu=>by subst et eu;exact ⟨EqAt.str_str _ _ _ _,strOf_beq⟩) q.1 q.2)
  fun X H=>H.go fun e H=>H.ex.elim fun zs q=>fin (f:=nst) (e:=veqN) (fun y v h=>by
   obtain rfl:va = .none:=(zd1 e▸ha:VR W n .none va)
   induction y with
   | none=>obtain rfl:v = .none:=h;exact ⟨EqAt.same _,rfl⟩
   | some z=>obtain ⟨u,rfl⟩:=h;exact ⟨EqAt.str_none _ _,rfl⟩) q.1 q.2
def InD(P:PM T)(A:Around)(E:Value→Shared→Prop)(s:Shared)(v u:Value)(r:Bool):Prop:=(∀Q:Value→Shared→Prop,(∀tk,Q (.bool r) {s with toks:=tk})→wpAny (model P.c.prog P.c.w) A (compareOp .In v u) Q E s)∧∀Q:Value→Shared→Prop,(∀tk,Q (.bool !r) {s with toks:=tk})→wpAny (model P.c.prog P.c.w) A (compareOp .NotIn v u) Q E s
theorem znA{l:Addr}{i:Int}{t:Tok}{f:Int→Bool}{m:Nat}(hS:s.heap.SetOf (intKind P.c.prog P.c.w) l f m):InD P A E s (.int i t) (.ref l) (f i):=⟨fun Q q=>wpAny_inSet_of (k:=i) (by simp [intKind,Value.isInt]) rfl hS (q _),fun Q q=>wpAny_notInSet_of (k:=i) (by simp [intKind,Value.isInt]) rfl hS (q _)⟩
theorem zpf{l:Addr}{vs:Array Value}{m:Nat}{e:Value→Bool}(hl:s.heap.get? l=some (zbY "list" vs m))(h:∀y,y∈vs→EqAt A.in1 s y va (e y)):InD P A E s va (.ref l) (vs.any e):=⟨fun Q q=>in_listAt _ ⟨_,hl,rfl,_,rfl⟩ h (q s.toks),fun Q q=>notIn_listAt _ ⟨_,hl,rfl,_,rfl⟩ h (q s.toks)⟩
theorem zmn{l:Addr}{vs:Array Value}{m:Nat}{e:Value→Bool}(hl:s.heap.get? l=some (zbY "tuple" vs m))(h:∀y,y∈vs→EqAt A.in1 s y va (e y)):InD P A E s va (.ref l) (vs.any e):=⟨fun Q q=>in_tupleAt _ ⟨_,hl,rfl,_,rfl⟩ h (q s.toks),fun Q q=>notIn_tupleAt _ ⟨_,hl,rfl,_,rfl⟩ h (q s.toks)⟩
theorem znn{l:List Nat}{c:Nat}(h:one l=some c):l = [c]:=by
 induction l using cL with
 | nil=>exact no h
 | cons x r=>induction r using cL with
  | nil=>exact sI h▸rfl
  | cons X Z=>exact no h
theorem in_str{c:Nat}{y:List Nat}{t u:Tok}:InD P A E s (.str (strOf [c]) t) (.str (strOf y) u) (decide (c∈y)):=by
 have e:(!(Builtin.Str.occurrences (strOf y) (strOf [c]) 0 (strOf y).length 1).isEmpty)=decide (c∈y):=StrLaws.found_one (strOf y) c
 exact e▸⟨fun Q q=>PySem.P.in_str (q s.toks),fun Q q=>PySem.P.notIn_str (q s.toks)⟩
theorem zhu{k:Bool→Tr AV}(H:(zkB T a b h k).sem K)(G:Go P W h s A)(ha:VR W h.nx a va)(hb:VR W h.nx b vb):∃r,(k r).sem K∧InD P A E s va vb r:=
 H.go (fun y e H=>H.go fun x e' H=>H.go fun c e'' H=>⟨_,H,by
  obtain ⟨t,rfl⟩:=(AV.str?_is e'▸ha:VR _ _ (.str x) va)
  obtain ⟨u,rfl⟩:=(AV.str?_is e▸hb:VR _ _ (.str y) vb)
  exact znn e''▸in_str⟩) fun X H=>H.go (fun g e H=>H.go fun i e' H=>H.go fun is es H=>⟨_,H,by
  obtain ⟨t,rfl⟩:=(AV.int?_is e'▸ha:VR _ _ (.int i) va)
  obtain rfl:vb = .ref g:=(AV.glob?_is e▸hb:VR W h.nx (.glob g) vb)
  exact (P.S.set_ _ _ es).elim fun hT z=>z.elim fun n z=>z.elim fun o z=>z.elim fun es z=>z.elim fun ep z=>z.elim fun tb z=>znA (m:=n) ⟨o,es,ep,tb,G.rel.amb.base _ _ z.1 hT,z.2⟩⟩) fun X H=>H.go (fun xs e H=>by
  obtain ⟨l,vs,m,rfl,l1,l2⟩:=(AV.tup?_is e▸hb:VR _ _ (.tup xs) vb)
  exact (znC H ha (l2.mapL fun X X=>SR.vr)).elim fun e q=>⟨_,q.2,zmn (G.rel.fz _ _ l1).2.1 q.1⟩) fun X H=>H.go (fun xs e H=>H.go fun q H=>⟨_,H,by
  obtain ⟨r,e1,e2⟩:=bE e
  obtain ⟨q1,q2⟩:=aI q
  obtain rfl:=eI q1
  obtain ⟨i,ei⟩:=iE q2
  obtain ⟨t,rfl⟩:=(AV.int?_is ei▸ha:VR _ _ (.int i) va)
  obtain ⟨b1,rfl⟩:=(AV.ref?_is e1▸hb:VR _ _ (.ref r) vb)
  obtain ⟨ob,o1,es,ep,tb,rfl,f,⟨ys,yp,ry⟩,X⟩:=G.rel.obj b1 (AO.set?_is e2) rfl
  obtain rfl:=List.perm_nil.mp yp
  obtain rfl:es = #[]:=Array.size_eq_zero_iff.mp ((List.length_map (as:=es.toList) (·.2)).symm.trans ry.len.symm)
  exact znA (f:=fun X=>false) (m:=0) ⟨_, #[],ep,tb,o1,⟨rfl,rfl,rfl⟩,rfl,fun e he=>(nomatch he),fun k=>⟨nofun,fun ⟨X,q,Z⟩=>nomatch q⟩,by decide,f,rfl⟩⟩) fun X H=>H.go fun p e H=>by
  obtain ⟨l,vs,m,rfl,l1,l2⟩:=zaj G.rel hb e
  exact (znC (n:=h.nx) H ha (VR.ups (zco p.1) l2)).elim fun e q=>⟨_,q.2,zpf l1 q.1⟩
theorem zk6(ha:VR W n a va):(va==Value.none)=isNone a:=by
 induction a with
 | int _ | str _=>exact ha.elim fun X e=>e▸rfl
 | ref X=>exact ha.2▸rfl
 | tup _ | lst _=>exact ha.elim fun X q=>q.elim fun X q=>q.elim fun X q=>q.1▸rfl
 | cod=>exact ha.elim fun X q=>q.elim fun X q=>q.1▸rfl
 | _=>rw [show va=_ from ha];rfl
def IsD(P:PM T)(A:Around)(E:Value→Shared→Prop)(s:Shared)(v u:Value)(r:Bool):Prop:=(∀Q:Value→Shared→Prop,Q (.bool r) s→wpAny (model P.c.prog P.c.w) A (compareOp .Is v u) Q E s)∧∀Q:Value→Shared→Prop,Q (.bool !r) s→wpAny (model P.c.prog P.c.w) A (compareOp .IsNot v u) Q E s
theorem zht{k:Bool→Tr AV}(H:(zkA a b k).sem K)(ha:VR W n a va)(hb:VR W n b vb):∃r,(k r).sem K∧IsD P A E s va vb r:=
 H.go (fun e H=>⟨_,H,by
  obtain rfl:vb = .none:=(zd1 e▸hb:VR W n .none vb)
  exact zk6 ha▸⟨fun Q q=>is_none_gen q,fun Q q=>isnot_none_gen q⟩⟩) fun X H=>H.go (fun y e H=>H.go fun x e' H=>⟨_,H,by
  obtain rfl:va = .bool x:=(AV.bool?_is e'▸ha:VR W n (.bool x) va)
  obtain rfl:vb = .bool y:=(AV.bool?_is e▸hb:VR W n (.bool y) vb)
  exact ⟨fun Q q=>PyProof.Rows.is_bool q,fun Q q=>PyProof.Rows.isnot_bool (by induction x <;> induction y <;> exact q)⟩⟩) fun X H=>H.go fun y e H=>H.go fun x e' H=>⟨_,H,by
  obtain rfl:va = .type x.id:=(AV.ty?_is e'▸ha:VR W n (.ty x) va)
  obtain rfl:vb = .type y.id:=(AV.ty?_is e▸hb:VR W n (.ty y) vb)
  exact TY.eq x y▸⟨fun Q q=>wP (a:=Value.bool (Value.type x.id==Value.type y.id)) q,fun Q q=>wP (a:=Value.bool (!(Value.type x.id==Value.type y.id))) q⟩⟩
theorem J2.cmpI{x y:Int}{op:CmpOp}{r:Bool}(H:K (.bool r) h)(f:∀A E s Q i j,Q (.bool r) s→wpAny (model P.c.prog P.c.w) A (compareOp op (.int x i) (.int y j)) Q E s):J P (V2 (.int x) (.int y)) VV (fun v=>compareOp op v.1 v.2) h K:=
 J2.ii (t:=fun v=>compareOp op v.1 v.2) fun A E Q s W i j G k=>f A E s Q i j (k.here G.rel (v:= .bool r) rfl H)
theorem znM{op:CmpOp}(H:cmp T op a b h K):J P (V2 a b) VV (fun v=>compareOp op v.1 v.2) h K:=by
 induction op with
 | Eq=>exact fun A E Q s W v G I kn=>(zhv H G I.1 I.2).elim fun r q=>q.2.1 _ _ _ _ (kn.here G.rel (v:= .bool r) rfl q.1)
 | NotEq=>exact fun A E Q s W v G I kn=>(zhv H G I.1 I.2).elim fun r q=>q.2.2 _ _ _ _ (kn.here G.rel (v:= .bool !r) rfl q.1)
 | Lt=>exact H.go fun X e H=>H.go fun X e' H=>AV.int?_is e▸AV.int?_is e'▸J2.cmpI H fun X X X X X X q=>PySem.P.lt_int q
 | LtE=>exact H.go fun X e H=>H.go fun X e' H=>AV.int?_is e▸AV.int?_is e'▸J2.cmpI H fun X X X X X X q=>PySem.P.le_int q
 | Gt=>exact H.go fun X e H=>H.go fun X e' H=>AV.int?_is e▸AV.int?_is e'▸J2.cmpI H fun X X X X X X q=>PySem.P.gt_int q
 | GtE=>exact H.go fun X e H=>H.go fun X e' H=>AV.int?_is e▸AV.int?_is e'▸J2.cmpI H fun X X X X X X q=>PySem.P.ge_int q
 | Is=>exact fun A E Q s W v G I kn=>(zht (a:=a) (b:=b) (k:=fun r=> .ret (.bool r) h) H I.1 I.2).elim fun r q=>q.2.1 _ (kn.here G.rel (v:= .bool r) rfl q.1)
 | IsNot=>exact fun A E Q s W v G I kn=>(zht (a:=a) (b:=b) (k:=fun r=> .ret (.bool !r) h) H I.1 I.2).elim fun r q=>q.2.2 _ (kn.here G.rel (v:= .bool !r) rfl q.1)
 | In=>exact fun A E Q s W v G I kn=>(zhu H G I.1 I.2).elim fun r q=>q.2.1 _ fun X=>kn.here G.rel (v:= .bool r) rfl q.1
 | NotIn=>exact fun A E Q s W v G I kn=>(zhu H G I.1 I.2).elim fun r q=>q.2.2 _ fun X=>kn.here G.rel (v:= .bool !r) rfl q.1
def unO(op:UnaryOp)(a:AV)(h:Hp):Tr AV:=UnaryOp.casesOn (motive:=fun X=>Tr AV) op (.os a.int? fun x=> .ret (.int (-x-1)) h) (zaU a h fun r h=> .ret (.bool !r) h) .no (.os a.int? fun x=> .ret (.int (-x)) h)
def un(op:UnaryOp)(a:AV)(h:Hp)(K:AV→Hp→Prop):Prop:=(unO op a h).sem K
theorem zsN{op:UnaryOp}(H:un op a h K):J P (V1 a) VV (fun v=>unaryOp op v) h K:=fun A E Q s W v G I k=>by
 show wpAny _ A (unaryOp op v) Q E s
 induction op with
 | Invert=>exact H.go fun x e H=>(AV.int?_is e▸I:VR _ _ (.int x) v).elim fun t e=>e▸PyProof.Rows.invert_int (by
   rw [show Builtin.bitNot x = -x-1 from by unfold Builtin.bitNot;lia]
   exact k.int G H)
 | Not=>
  unfold unaryOp
  exact wH (wB (zcw (a:=a) (h:=h) (B:=K) (κ:=fun r h=> .ret (AV.bool !r) h) H A E _ s W v G I fun X X X X X S e q=>wP (k S (show VR _ _ (.bool _) _ from congrArg (fun r=>Value.bool !r) e) q)))
 | UAdd=>exact H.elim
 | USub=>exact H.go fun x e H=>(AV.int?_is e▸I:VR _ _ (.int x) v).elim fun t e=>e▸PySem.P.neg_int (k.int G H)
end
noncomputable def zbg(i:Int):Bool:=decide (-(2^63)≤i)&&decide (i<2^63)
def nth{α:Type}(xs:List α)(i:Int):Option α:=bif zbg i then (seqIndex? i xs.length).bind (xs[·]?) else none
noncomputable def zar{α:Type}(es:List (List Nat×α))(k:List Nat):Option α:=(es.find? fun e=>e.1==k).map (·.2)
def zau(a b:AV)(h:Hp):Tr AV:= .al a.str? (fun z=> .os b.int? fun i=> .Op U.n? (nth z i) fun c=> .ret (.str [c]) h)
 (.al a.tup? (fun xs=> .os b.int? fun i=> .Op U.x? (nth xs i) fun v=> .ret v.av h)
 (.al (a.ref?.bind fun r=>(h.at_ r).dict?) (fun p=> .os b.str? fun z=> .Op U.a? (zar p.2 z) fun v=> .ret v h)
 (.os (zaY h a) fun p=> .os b.int? fun i=> .Op U.a? (nth p.2 i) fun v=> .ret v h)))
def item(a b:AV)(h:Hp)(K:AV→Hp→Prop):Prop:=(zau a b h).sem K
noncomputable def zdn(a:AV):Option (Option Int):=AV.casesOn (motive:=fun X=>Option (Option Int)) a (some none) (fun X=>none) (fun i=>some (some i)) (fun X=>none) (fun X=>none) (fun X=>none) (fun X=>none) (fun X=>none) (fun X=>none) (fun X=>none) none
noncomputable def zaF{α:Type}(xs:List α)(lo hi st:Option Int):List α:=
 (PySem.sliceRange (PySem.sliceBounds lo hi st xs.length).1 (PySem.sliceBounds lo hi st xs.length).2.1 (PySem.sliceBounds lo hi st xs.length).2.2).filterMap (xs[·]?)
noncomputable def zao(x:List Nat)(lo hi st:Option Int):List Nat:=
 let p:=Builtin.Str.strSliceIndices lo hi (st.getD 1) x.length
 if (st.getD 1==1&&p.length==x.length)=true then x else p.filterMap (x[·]?)
noncomputable def AO.flist?(o:AO):Option (List Int):=AO.casesOn (motive:=fun X=>Option (List Int)) o (fun X X=>none) (fun X X=>none) (fun X=>none) (fun X X=>none) (fun X=>none) (fun X X=>none) (fun X X=>none) (fun X X X=>none) (fun X X X=>none) (fun X=>none) (fun X X=>none) (fun X X=>none) (fun X X X=>none) (fun X X=>none) (fun X X=>none) (fun X=>none) (fun X=>none) (fun X X xs=>some xs) none
def zuy(a lo hi st:AV)(h:Hp):Tr AV:= .os (zdn lo) fun l=> .os (zdn hi) fun u=> .os (zdn st) fun k=> .Rq (!(k==some 0))
 (.al a.str? (fun z=> .Rq (Nat.ble z.length sizeL) (.ret (.str (zao z l u k)) h))
 (.al (a.ref?.bind fun r=>(h.at_ r).flist?) (fun xs=> .Rq (Nat.ble xs.length sizeL) (nuT false (zaF (xs.map .int) l u k) h))
 (.os (zaY h a) fun p=> .Rq (Nat.ble p.2.length sizeL) (nuT p.1 (zaF p.2 l u k) h))))
def cut(a lo hi st:AV)(h:Hp)(K:AV→Hp→Prop):Prop:=(zuy a lo hi st h).sem K
def tf(a:AV):Bool:=a.ref?.isNone
def ze7(a b v:AV)(h:Hp):Tr Unit:= .os a.ref? fun r=> .os (h.at_ r).list? fun p=> .os b.int? fun i=> .Rq (decide (0≤i)&&decide (i<p.2.length)&&Nat.ble p.2.length sizeL&&(p.1 || tf v)) (.ret () (h.set r (.list p.1 (p.2.set i.toNat v))))
def zfY(a b v:AV)(h:Hp)(K:Unit→Hp→Prop):Prop:=(ze7 a b v h).sem K
section
variable {T:Tabs} {P:PM T} {W:Wd} {h:Hp} {s:Shared} {A:Around} {E:Value→Shared→Prop} {a b lo hi st:AV} {K:AV→Hp→Prop} {n:Nat}
theorem zgO{α:Type}{xs:List α}{i:Int}{v:α}(e:nth xs i=some v):zbg i=true∧(seqIndex? i xs.length).bind (xs[·]?)=some v:=by
 unfold nth at e
 induction q:zbg i with
 | true=>rw [q] at e;exact ⟨rfl,e⟩
 | false=>rw [q] at e;exact no e
theorem zaT{α:Type}{xs:List α}{i:Nat}{v:α}(e:xs[i]? = some v)(hl:Nat.ble xs.length sizeL=true):nth xs i=some v:=by
 have l:=(gE e).1
 have hl:xs.length≤2^24:=ble hl
 have f:zbg (i:Int)=true:=by unfold zbg;simp only [Bool.and_eq_true,decide_eq_true_eq];lia
 have q:seqIndex? (i:Int) xs.length=some i:=by
  unfold seqIndex?
  rw [if_neg (Int.not_lt.mpr (Int.natCast_nonneg i))]
  exact if_pos (by simp only [Bool.and_eq_true,decide_eq_true_eq];lia)
 unfold nth
 rw [f,q];exact e
def JI(P:PM T)(a b:AV)(h:Hp)(K:AV→Hp→Prop):Prop:=∀A E Q s W va vb,Go P W h s A→VR W h.nx a va→VR W h.nx b vb→Kn P VV K W h.nx s Q→(∀Q':Bool→Shared→Prop,Q' false s→wpAny (model P.c.prog P.c.w) A (getitemInPython va) Q' E s)∧wpAny (model P.c.prog P.c.w) A (getItem va vb) Q E s
theorem zav{Ty id:String}{v:Value}{Q:Bool→Shared→Prop}(hT:s.TypeIs v Ty)(h:Slot Ty "__getitem__" id)(q:Q false s):wpAny (model P.c.prog P.c.w) A (getitemInPython v) Q E s:=by
 unfold getitemInPython
 exact wB (wpAny_specialOf hT h.lookup (wP q))
theorem zj3{α:Type}{xs:List α}{i:Int}{v:α}(e:nth xs i=some v):(0≤i∧i<2^63∧xs[i.toNat]? = some v)∨(i<0∧ -(xs.length:Int)≤i∧ -(2^63)≤i∧xs[(i+xs.length).toNat]? = some v):=by
 obtain ⟨f,e⟩:=zgO e
 simp only [zbg,Bool.and_eq_true,decide_eq_true_eq] at f
 obtain ⟨j,e3,e4⟩:=bE e
 unfold seqIndex? at e3
 by_cases h0:i<0
 ·rw [if_pos h0] at e3
  obtain ⟨c,e5⟩:=Option.ite_none_right_eq_some.mp e3
  simp only [Bool.and_eq_true,decide_eq_true_eq] at c
  exact .inr ⟨h0,by lia,f.1,sI e5▸e4⟩
 ·rw [if_neg h0] at e3
  obtain ⟨c,e5⟩:=Option.ite_none_right_eq_some.mp e3
  exact .inl ⟨by lia,f.2,sI e5▸e4⟩
theorem Rs.nth{α:Type}{R:α→Value→Prop}{xs:List α}{vs:Array Value}(r:Rs R xs vs.toList){i:Int}{v:α}(e:nth xs i=some v):∃j w,seqIndex? i vs.size=some j∧vs[j]? = some w∧R v w:=by
 obtain ⟨j,e3,e4⟩:=bE (zgO e).2
 exact (r.get j _ e4).elim fun w q=>⟨j,w,r.size▸e3,Array.getElem?_toList▸q.1,q.2⟩
theorem ER.find{w:World}{R:AV→Value→Prop}{x:List Nat}{es:List (List Nat×AV)}{ds:List DictEntry}(r:Rs (ER w R) es ds):(∃v u,zar es x=some v∧(ds.find? fun e=>Value.isStrOf (strOf x) e.key).map (·.val)=some u∧R v u)∨(zar es x=none∧(ds.find? fun e=>Value.isStrOf (strOf x) e.key).map (·.val)=none):=by
 induction r with
 | nil=>exact .inr ⟨rfl,rfl⟩
 | @cons k _ es ds a _ ih=>
  obtain ⟨tk,u,rfl,r⟩:=a
  unfold zar
  rw [List.find?_cons,List.find?_cons,show Value.isStrOf (strOf x) (.str (strOf k.1) tk)=(k.1==x) from strOf_beq]
  induction k.1==x with
  | true=>exact .inl ⟨k.2,u,rfl,rfl,r⟩
  | false=>exact ih
theorem zre{a:Addr}{es:List (List Nat×AV)}{ds:Array DictEntry}{k:Nat}{R:AV→Value→Prop}(ho:s.heap.get? a=some {cls:= .type "dict",data:= .dict ds k})(h:Rs (ER P.c.w R) es ds.toList):
  s.heap.MapOf (PySem.strKind P.c.prog P.c.w) a (fun x=>(ds.toList.find? fun e=>Value.isStrOf x e.key).map (·.val)):=by
 have key:∀{es:List (List Nat×AV)} {ds:List DictEntry},Rs (ER P.c.w R) es ds→∀e∈ds,∃k,(PySem.strKind P.c.prog P.c.w).is k e.key=true∧e.hash=(PySem.strKind P.c.prog P.c.w).hash k:=fun r=>by
  induction r with
  | nil=>exact fun X h=>absurd h List.not_mem_nil
  | @cons x _ _ _ a _ ih=>exact fun e he=>(cP he).elim (fun q=>a.elim fun t a=>a.elim fun u a=>⟨strOf x.1,q▸a.1▸⟨beq_self_eq_true (strOf x.1),rfl⟩⟩) (ih e)
 exact ⟨_,ds,k,ho,⟨rfl,rfl,rfl⟩,rfl,fun e he=>key h e (Array.mem_toList_iff.mpr he),fun x=>by unfold findBy;rw [←Array.find?_toList];rfl⟩
theorem zmk{z:List Nat}{i:Int}{c:Nat}(e:nth z i=some c)(H:K (.str [c]) h):JI P (.str z) (.int i) h K:=fun A E Q s W va vb G ⟨t,ha⟩ ⟨u,hb⟩ k=>by
 subst ha hb
 obtain ⟨f,e⟩:=zgO e
 simp only [zbg,Bool.and_eq_true,decide_eq_true_eq] at f
 exact ⟨fun Q q=>zav (Ty:= "str") (typeIs_str _ _ _) PySem.F.slot_str_getitem q,PyProof.Rows.getItem_str (c:=c) (by rw [decide_eq_false (by lia),decide_eq_false (by lia)];rfl) (by rw [za4];simpa [strOf] using e) (k.str G H)⟩
theorem zmj{xs:List SV}{i:Int}{v:SV}(e:nth xs i=some v)(H:K v.av h):JI P (.tup xs) (.int i) h K:=fun A E Q s W va vb G ⟨a,vs,m,ha,h1,h2⟩ ⟨u,hb⟩ k=>by
 subst ha hb
 have h1:=(G.rel.fz _ _ h1).2.1
 have f:=(zgO e).1
 simp only [zbg,Bool.and_eq_true,decide_eq_true_eq] at f
 obtain ⟨j,w,e1,e2,r⟩:=h2.nth e
 exact ⟨fun Q q=>zav (Ty:= "tuple") ⟨_,h1,rfl⟩ PySem.F.slot_tuple_getitem q,PyProof.Rows.getItem_tuple ⟨_,h1,rfl,_,rfl⟩ f.1 f.2 e1 e2 (k.here G.rel r.vr H (tk:=s.toks) (d:=s.drawn))⟩
theorem zk4{p:Bool×List AV}{i:Int}{v:AV}(ea:zaY h a=some p)(e:nth p.2 i=some v)(H:K v h):JI P a (.int i) h K:=fun A E Q s W va vb G ha ⟨u,hb⟩ k=>by
 subst hb
 obtain ⟨l,vs,m,rfl,h1,h2⟩:=zaj G.rel ha ea
 have h2:=VR.ups (zco p.1) h2
 refine ⟨fun Q q=>zav (Ty:= "list") ⟨_,h1,rfl⟩ PySem.F.slot_list_getitem q,?_⟩
 rcases zj3 e with ⟨c1,c2,c3⟩ | ⟨c0,c1,c2,c3⟩
 ·exact (h2.get _ _ c3).elim fun w q=>wpAny_getItem_list ⟨_,h1,rfl,_,rfl⟩ c1 c2 (Array.getElem?_toList▸q.1) (k.here G.rel q.2 H (tk:=s.toks) (d:=s.drawn))
 ·exact (h2.get _ _ c3).elim fun w q=>wpAny_getItem_list_neg ⟨_,h1,rfl,_,rfl⟩ c0 (h2.size▸c1) c2 (by rw [←h2.size,←Array.getElem?_toList];exact q.1) (k.here G.rel q.2 H (tk:=s.toks) (d:=s.drawn))
theorem zk5{r:Nat}{p:Bool×List (List Nat×AV)}{z:List Nat}{v:AV}(ea:(h.at_ r).dict? = some p)(e:zar p.2 z=some v)(H:K v h):JI P (.ref r) (.str z) h K:=fun A E Q s W va vb G ha ⟨u,hb⟩ k=>by
 subst hb
 obtain ⟨hr,rfl⟩:=ha
 obtain ⟨ob,o1,ds,m,rfl,o2,X⟩:=G.rel.obj hr (AO.dict?_is ea) rfl
 rcases ER.find (x:=z) o2 with ⟨v',w,q1,q2,q3⟩ | ⟨q1,_⟩
 ·rw [e] at q1
  exact ⟨fun Q q=>zav (Ty:= "dict") ⟨_,o1,rfl⟩ PySem.F.slot_dict_getitem q,wpAny_getItem_of (k:=strOf z) (beq_self_eq_true _) (zre o1 o2) q2 (k.here G.rel (VR.up (zco p.1) q3) (sI q1▸H))⟩
 ·rw [e] at q1;exact nomatch q1
theorem zk3(H:item a b h K):JI P a b h K:=
 H.go (fun z e H=>H.go fun i e' H=>H.go fun c q H=>AV.str?_is e▸AV.int?_is e'▸zmk q H) fun X H=>H.go (fun z e H=>H.go fun i e' H=>H.go fun c q H=>AV.tup?_is e▸AV.int?_is e'▸zmj q H) fun X H=>
 H.go (fun z e H=>H.go fun i e' H=>H.go fun c q H=>(bE e).elim fun r e=>AV.ref?_is e.1▸AV.str?_is e'▸zk5 e.2 q H) fun X H=>H.go fun z e H=>H.go fun i e' H=>H.go fun c q H=>AV.int?_is e'▸zk4 e q H
theorem zc3{x:AV}{v:Value}{p:Option Int}(h:VR W n x v)(e:zdn x=some p):IsPart v p∧∃q:Option (Int×Tok),v=partValue q∧q.map (·.1)=p:=by
 induction x with
 | none=>
  obtain rfl:none=p:=sI e
  obtain rfl:v = .none:=h
  exact ⟨.none,none,rfl,rfl⟩
 | int i=>
  obtain rfl:some i=p:=sI e
  obtain ⟨t,rfl⟩:=h
  exact ⟨.int _ _,some (i,t),rfl,rfl⟩
 | _=>exact no e
theorem Rs.pick{α:Type}{R:α→Value→Prop}{xs:List α}{vs:List Value}(r:Rs R xs vs):∀is:List Nat,Rs R (is.filterMap (xs[·]?)) (is.filterMap (vs[·]?))
 | []=> .nil
 | i :: is=>by
  rw [List.filterMap_cons,List.filterMap_cons]
  induction e:xs[i]? with
  | none=>
   rw [List.getElem?_eq_none (r.len▸List.getElem?_eq_none_iff.mp e)];exact r.pick is
  | some x=>
   obtain ⟨v,e',q⟩:=r.get i x e
   rw [e'];exact .cons q (r.pick is)
def ztZ(P:PM T)(a lo hi st:AV)(h:Hp)(K:AV→Hp→Prop):Prop:=∀A E Q s W va vl vu vk sl,Go P W h s A→VR W h.nx a va→VR W h.nx lo vl→VR W h.nx hi vu→VR W h.nx st vk→s.heap.IsSliceOf sl vl vu vk→Kn P VV K W h.nx s Q→
 (∀Q':Bool→Shared→Prop,Q' false s→wpAny (model P.c.prog P.c.w) A (getitemInPython va) Q' E s)∧wpAny (model P.c.prog P.c.w) A (getItem va (.ref sl)) Q E s
variable {l u k:Option Int}
theorem zhr{f:Bool}{xs:List AV}(e1:zdn lo=some l)(e2:zdn hi=some u)(e3:zdn st=some k)(h0:k≠some 0)(hl:Nat.ble xs.length sizeL=true)(H:nuL f (zaF xs l u k) h K)
  (g:∀W s va,Rel P.c W h s→VR W h.nx a va→∃r vs m,va = .ref r∧s.heap.get? r=some (zbY "list" vs m)∧Rs (VR W (lim f h.nx)) xs vs.toList):ztZ P a lo hi st h K:=fun A E Q s W va vl vu vk sl G ha h1 h2 h3 hs kn=>by
 obtain ⟨r,vs,m,rfl,q1,q2⟩:=g W s va G.rel ha
 have z:vs.size≤sizeLine:=q2.size▸ble hl
 refine ⟨fun Q q=>zav (Ty:= "list") ⟨_,q1,rfl⟩ PySem.F.slot_list_getitem q,wpAny_getItem_list_slice ⟨_,q1,rfl,_,rfl⟩ hs (zc3 h1 e1).1 (zc3 h2 e2).1 (zc3 h3 e3).1 h0 (kn.list G (tk:=s.toks) (d:=s.drawn) (n:=0) ?_ H) z⟩
 have:=q2.pick (sliceRange (sliceBounds l u k xs.length).1 (sliceBounds l u k xs.length).2.1 (sliceBounds l u k xs.length).2.2)
 unfold slicePick zaF
 rw [←q2.size]
 simpa using this
theorem zpD{z:List Nat}(e1:zdn lo=some l)(e2:zdn hi=some u)(e3:zdn st=some k)(h0:k≠some 0)(hl:Nat.ble z.length sizeL=true)(H:K (.str (zao z l u k)) h):ztZ P (.str z) lo hi st h K:=fun A E Q s W va vl vu vk sl G ha h1 h2 h3 hs kn=>by
 obtain ⟨t,rfl⟩:=ha
 obtain ⟨ql,rfl,rfl⟩:=(zc3 h1 e1).2
 obtain ⟨qu,rfl,rfl⟩:=(zc3 h2 e2).2
 obtain ⟨qk,rfl,rfl⟩:=(zc3 h3 e3).2
 have k0:(qk.map (·.1)).getD 1≠0:=by
  induction qk with
  | none=>decide
  | some p=>exact fun e=>h0 (congrArg some e)
 refine ⟨fun Q q=>zav (Ty:= "str") (typeIs_str _ _ _) PySem.F.slot_str_getitem q,wpAny_getItem_str_slice hs (beq_eq_false_iff_ne.mpr k0) ?_⟩
 unfold sliceMade
 rw [show PySem.slicePicked (strOf z) ql qu qk=Builtin.Str.strSliceIndices (ql.map (·.1)) (qu.map (·.1)) ((qk.map (·.1)).getD 1) z.length from by unfold PySem.slicePicked;rw [za4],za4]
 unfold zao at H
 dsimp only at H⊢
 split
 ·rename_i q
  rw [if_pos q] at H
  exact kn.here G.rel (v:= .str z) ⟨t,rfl⟩ H (tk:=s.toks) (d:=s.drawn)
 ·rename_i q
  rw [if_neg q] at H
  have e:(⟨((Builtin.Str.strSliceIndices (ql.map (·.1)) (qu.map (·.1)) ((qk.map (·.1)).getD 1) z.length).filterMap ((strOf z).cps[·]?)).toArray⟩:Str)=strOf ((Builtin.Str.strSliceIndices (ql.map (·.1)) (qu.map (·.1)) ((qk.map (·.1)).getD 1) z.length).filterMap (z[·]?)):=by simp [strOf]
  rw [e]
  exact ⟨by rw [za4];exact lT (List.length_filterMap_le _ _) (lT (sliceIndicesBy_le _ _ _ k0 z.length) (ble hl)),kn.str G H⟩
theorem zki{o:AO}{xs:List Int}:o.flist? = some xs→∃vs n,o = .flist vs n xs:=AO.casesOn (motive:=fun o=>o.flist? = some xs→∃vs n,o = .flist vs n xs) o (fun X X=>no) (fun X X=>no) (fun X=>no) (fun X X=>no) (fun X=>no) (fun X X=>no) (fun X X=>no) (fun X X X=>no) (fun X X X=>no) (fun X=>no) (fun X X=>no) (fun X X=>no) (fun X X X=>no) (fun X X=>no) (fun X X=>no) (fun X=>no) (fun X=>no) (fun vs n X e=>⟨vs,n,sI e▸rfl⟩) no
theorem zrH(H:cut a lo hi st h K):ztZ P a lo hi st h K:=H.go fun l e1 H=>H.go fun u e2 H=>H.go fun k e3 H=>H.go fun h0 H=>by
 have h0:k≠some 0:=fun q=>by rw [q] at h0;exact nb h0
 exact H.go (fun z e H=>H.go fun hl H=>AV.str?_is e▸zpD e1 e2 e3 h0 hl H) fun X H=>H.go (fun xs e H=>H.go fun hl H=>(bE e).elim fun r e=>(zki e.2).elim fun vs q=>q.elim fun m q=>AV.ref?_is e.1▸zhr e1 e2 e3 h0 (by rw [List.length_map];exact hl) H
   fun W s va R ha=>(R.obj ha.1 q rfl).elim fun ob o=>⟨_,vs,m,ha.2,o.2.1▸o.1,o.2.2⟩)
  fun X H=>H.go fun p e H=>H.go fun hl H=>zhr e1 e2 e3 h0 hl H fun W s va R ha=>zaj R ha e
theorem ze5{r:Addr}{vs:Array Value}{m:Nat}{i:Int}{t:Tok}{v:Value}{Q:Unit→Shared→Prop}(ho:s.heap.get? r=some (zbY "list" vs m))(h0:0≤i)(hk:i<vs.size)(hfit:i<2^63)
  (hQ:Q () {s with heap:=s.heap.update r (Obj.mapSeq (·.setIfInBounds i.toNat v))}):wpAny (model P.c.prog P.c.w) A (setItem (.ref r) (.int i t) v) Q E s:=by
 have hl:s.heap.IsList r vs:=⟨_,ho,rfl,m,rfl⟩
 have hx':vs[i.toNat]? = some vs[i.toNat]:=Array.getElem?_eq_getElem (by omega)
 unfold setItem
 try with_reducible refine wH ?_
 first | refine wB (wP ?_) | skip
 refine wB (wpAny_sequenceKey hl.typeIs (by decide) ?_)
 refine wB (wpAny_callSpecial?_slot (name:=Str.ofString "__setitem__") hl.typeIs slot_list_setitem (wpAny_call_entry slot_list_setitem hl.typeIs entry_list_setitem ?_ (args_list_setitem _ _ _)))
 refine wB (m:=Builtin.List.listSubscript? (.int i t)) (wpAny_listSubscript_int (fitsIndex_of h0 hfit) ?_)
 obtain ⟨j,rfl⟩:=Int.eq_ofNat_of_zero_le h0
 refine wB (m:=seqItemAt r j>>=fun r=>pure (r.map (j,·))) (wB (wpAny_seqItemAt ho rfl (wP ?_)))
 rw [show vs[j]? = some vs[j] from hx']
 refine wB (m:=setSeqItemAt r j v) (wpAny_setSeqItemAt ho rfl ?_)
 first
  | exact wB (wP (wP ⟨.none,rfl,wP hQ⟩))
  | exact wP ⟨.none,rfl,wP hQ⟩
theorem Rs.set{α β:Type}{R:α→β→Prop}{x:α}{y:β}(q:R x y){xs:List α}{ys:List β}(r:Rs R xs ys):∀i,Rs R (xs.set i x) (ys.set i y):=by
 induction r with
 | nil=>exact fun X=> .nil
 | cons a t ih=>exact fun i=>Nat.casesOn i (.cons q t) fun i=> .cons a (ih i)
theorem Step.seq{c:Cx}(R:Rel c W h s){r:Nat}{p:Bool×List AV}(hr:r<h.nx)(e:(h.at_ r).list? = some p){vs:Array Value}{m:Nat}(ho:s.heap.get? (W.pl r)=some (zbY "list" vs m)){f:Array Value→Array Value}{g:Bool}{ys:List AV}(hy:Rs (VR W (lim g h.nx)) ys (f vs).toList){tk:Nat}{d:Drawn}:
  Step c h.nx W s W (h.set r (.list g ys)) {s with heap:=s.heap.update (W.pl r) (Obj.mapSeq f),toks:=tk,drawn:=d}:=
 .set R (k:=r) (.list g ys) hr (AO.list?_is e▸rfl) (fun X=>⟨_,Heap.get?_update_self _ ho rfl,f vs,_,rfl,hy⟩) (fun b o e hb=>(Heap.get?_update_ne _ _ _ _ hb).trans e) rfl rfl (Nat.le_of_eq (upd_size ..).symm)
theorem ziK{x:AV}{v:Value}{f:Bool}(h:(f || tf x)=true)(r:VR W n x v):VR W (lim f n) x v:=by
 induction f with
 | true=>exact r
 | false=>induction x with
  | ref X=>exact nb h
  | _=>exact r
theorem zcW{c:Cx}(R:Rel c W h s){r:Nat}{p:Bool×List AV}(hr:r<h.nx)(e:(h.at_ r).list? = some p):∃vs m,s.heap.get? (W.pl r)=some (zbY "list" vs m)∧Rs (VR W (lim p.1 h.nx)) p.2 vs.toList:=(R.obj hr (AO.list?_is e) rfl).elim fun X o=>o.2.elim fun vs q=>q.elim fun m q=>⟨vs,m,q.1▸o.1,q.2⟩
theorem zdy{v:AV}{K:Unit→Hp→Prop}(H:zfY a b v h K):J P (V3 a b v) UU (fun x=>setItem x.1 x.2.1 x.2.2) h K:=fun A E Q s W x G I k=>H.go fun r e H=>H.go fun p e1 H=>H.go fun i e2 H=>H.go fun c H=>by
 obtain ⟨hr,q1⟩:=(AV.ref?_is e▸I.1:VR _ _ (.ref r) x.1)
 obtain ⟨t,q2⟩:=(AV.int?_is e2▸I.2.1:VR _ _ (.int i) x.2.1)
 simp only [Bool.and_eq_true,decide_eq_true_eq] at c
 obtain ⟨vs,m,o1,o2⟩:=zcW G.rel hr e1
 show wpAny _ A (setItem x.1 x.2.1 x.2.2) Q E s
 have z:p.2.length≤2^24:=ble c.1.2
 rw [q1,q2]
 exact ze5 o1 c.1.1.1 (o2.size▸c.1.1.2) (by lia) (k (.seq G.rel hr e1 o1 (f:=(·.setIfInBounds i.toNat x.2.2)) (by rw [Array.toList_setIfInBounds];exact o2.set (ziK c.2 I.2.2) _) (tk:=s.toks) (d:=s.drawn)) trivial H)
end
end Mn
end
section
open PySem PySem.W PyProof.Rows PySem.Calls PySem.SeqAt Builtin Builtin.ObjectAttr Builtin.Getset_descriptor
namespace Mn
noncomputable def zcj(es:List (List Nat×AV))(k:List Nat)(v:AV):List (List Nat×AV):=match es with
 | []=> [(k,v)]
 | e :: r=>bif e.1==k then (e.1,v) :: r else e :: zcj r k v
def zmm(h:Hp)(r:Nat):Option ((Nat×Nat)×Bool×List (List Nat×AV)):=(h.at_ r).inst?.bind fun c=>(h.at_ c.2).dict?.map fun p=>(c,p)
def zpj(T:Tabs)(o:AV)(n:List Nat)(h:Hp):Tr AV:= .os o.ref? fun r=> .os (zmm h r) fun i=> .al (zar i.2.2 n) (fun v=> .rq ((T.attrs i.1.1).contains n) (.ret v h)) (.os (zb3 T i.1.1 n) fun m=> .ret (.ref h.nx) (h.new (.bound o m)))
def zum(T:Tabs)(o:AV)(n:List Nat)(h:Hp)(K:AV→Hp→Prop):Prop:=(zpj T o n h).sem K
def zoE(T:Tabs)(o:AV)(n:List Nat)(v:AV)(h:Hp):Tr Unit:= .os o.ref? fun r=> .os (zmm h r) fun i=> .rq ((T.attrs i.1.1).contains n&&Nat.blt i.2.2.length 100&&(i.2.1 || tf v)) (.ret () (h.set i.1.2 (.dict i.2.1 (zcj i.2.2 n v))))
def zt7(T:Tabs)(o:AV)(n:List Nat)(v:AV)(h:Hp)(K:Unit→Hp→Prop):Prop:=(zoE T o n v h).sem K
section
variable {T:Tabs} {P:PM T} {W:Wd} {h:Hp} {s:Shared} {A:Around} {E:Value→Shared→Prop} {o v:AV} {K:AV→Hp→Prop} {n:List Nat} {r m:Nat} {i:(Nat×Nat)×Bool×List (List Nat×AV)} {R:AV→Value→Prop} {es:List (List Nat×AV)} {ds:List DictEntry}
theorem zge(r:Rs (ER P.c.w R) es ds):((∃v u,zar es n=some v∧PySem.W.getL (strOf n) ds=some (some u)∧R v u)∨(zar es n=none∧PySem.W.getL (strOf n) ds=some none))∧ds.any (·.refKey)=false:=by
 have hr:ds.any (·.refKey)=false:=by
  induction r with
  | nil=>rfl
  | cons a X ih=>rw [List.any_cons,ih];exact a.elim fun t a=>a.elim fun u a=>a.1▸rfl
 have e:(fun e:DictEntry=>Value.isStrOf (strOf n) e.key)=fun e=>e.key.isStr (strOf n):=funext fun e=>by induction e.key <;> rfl
 have f:=ER.find (x:=n) r
 rw [e] at f
 unfold PySem.W.getL
 refine ⟨f.imp (fun q=>q.elim fun v q=>q.elim fun u q=>(jE q.2.1).elim fun en g=>⟨v,u,q.1,by rw [g.1];exact congrArg (some ∘ some) g.2,q.2.2⟩) fun q=>⟨q.1,by rw [Option.map_eq_none_iff.mp q.2];exact if_neg (by rw [hr];exact Bool.false_ne_true)⟩,hr⟩
structure InstD(P:PM T)(s:Shared)(W:Wd)(h:Hp)(r:Nat)(i:(Nat×Nat)×Bool×List (List Nat×AV))(ds:List DictEntry)(k:Nat):Prop where
 lt:i.1.2<h.nx
 live:(h.at_ i.1.2).live=true
 x:s.heap.get? (W.pl r)=some (instObj i.1.1 (W.pl i.1.2))
 d:s.heap.get? (W.pl i.1.2)=some (dictOf ds k)
 r:Rs (ER P.c.w (VR W (lim i.2.1 h.nx))) i.2.2 ds
 nd:(i.2.2.map (·.1)).Nodup
theorem zel(R:Rel P.c W h s)(hr:r<h.nx)(e:zmm h r=some i):∃ds k,InstD P s W h r i ds k:=by
 obtain ⟨c,e1,e2⟩:=bE e
 obtain ⟨p,e3,rfl⟩:=jE e2
 obtain ⟨ob,o1,o2⟩:=R.obj hr (AO.inst?_is e1) rfl
 obtain ⟨ob',q1,ds,k,rfl,q3,q4,q5⟩:=R.obj o2.1 (AO.dict?_is e3) rfl
 exact ⟨ds.toList,k,o2.1,AO.dict?_is e3▸rfl,o2.2▸o1,q1,q3,q4⟩
theorem InstD.at_{k:Nat}(D:InstD P s W h r i ds k):InstAt s.heap (W.pl r) (instObj i.1.1 (W.pl i.1.2)) i.1.1 (some (dictOf ds k)):=⟨D.x,rfl,rfl,D.d⟩
theorem Stat.here(R:Rel P.c W h s):P.c.K.In s.heap:=fun a o e=>R.amb.base a o (P.S.inB a o e) (P.S.tabs a o e)
theorem zcd{C:Nat}(e:(T.attrs C).contains n=true):n∈T.attrs C∧(T.attrs C≠[]∨T.meth C≠[]):=by
 have:=List.contains_iff_mem.mp e
 exact ⟨this, .inl (List.ne_nil_of_mem this)⟩
theorem zjO{C:Nat}(e:zb3 T C n=some m):T.attrs C≠[]∨T.meth C≠[]:= .inr fun q=>by unfold zb3 at e;rw [q] at e;exact no e
theorem zgK{k:Nat}{cd:ClassData}(hd:cd.hasDict=true):PySem.W.ownOf cd (some (dictOf ds k)) (strOf n)=PySem.W.getL (strOf n) ds:=by
 unfold PySem.W.ownOf;rw [hd];rfl
theorem zf9{n:Nat}{x:AV}{v:Value}(h:VR W n x v):handedIn v=true:=by
 induction x with
 | int _ | str _=>exact h.elim fun X e=>e▸rfl
 | ref X=>exact h.2▸rfl
 | bi m=>obtain rfl:v=_:=h;induction m <;> decide +kernel
 | tup _ | lst _=>exact h.elim fun X q=>q.elim fun X q=>q.elim fun X q=>q.1▸rfl
 | cod=>exact h.elim fun X q=>q.elim fun X q=>q.1▸rfl
 | _=>obtain rfl:v=_:=h;rfl
theorem InstD.val{k:Nat}(D:InstD P s W h r i ds k)(R:Rel P.c W h s){u:Value}{x:Bool}{Q:Value→Shared→Prop}(e:(T.attrs i.1.1).contains n=true)(g:PySem.W.getL (strOf n) ds=some (some u))(hu:handedIn u=true)(q:Q u {s with toks:=s.toks+1}):wpAny (model P.c.prog P.c.w) A (getAttr (.ref (W.pl r)) (strOf n) x) Q E s:=by
 obtain ⟨c1,c2,c3,c4,c5⟩:=P.S.cls _ (zcd e).2
 obtain ⟨cd,hc,hd⟩:=any_some c4
 refine get_value (Stat.here R) D.at_ c1 ?_ hu q
 unfold findObj
 rw [hc,P.S.attr _ n (zcd e).1]
 simp only [Option.bind_some]
 rw [zgK hd,g];rfl
theorem InstD.bound{k:Nat}(D:InstD P s W h r i ds k)(R:Rel P.c W h s){x:Bool}{Q:Value→Shared→Prop}(e:zb3 T i.1.1 n=some m)(g:PySem.W.getL (strOf n) ds=some none)(q:Q (.ref s.heap.objs.size) {s with heap:=s.heap.push (methodObj (.ref m) (.ref (W.pl r))),toks:=s.toks+1}):wpAny (model P.c.prog P.c.w) A (getAttr (.ref (W.pl r)) (strOf n) x) Q E s:=by
 obtain ⟨c1,c2,c3,c4,c5⟩:=P.S.cls _ (zjO e)
 obtain ⟨cd,hc,hd⟩:=any_some c4
 obtain ⟨m1,m2,m3,m4,m5⟩:=P.S.meth _ n m e
 refine get_bind (g:= .builtin "function.__get__") (a:= .ref m) (Stat.here R) D.at_ c1 ?_ c5 (wpAny_call (fn_get (s:={s with toks:=s.toks+1}) (show P.c.K.In s.heap from Stat.here R) m3 ?_))
 ·unfold findObj
  rw [hc,m1]
  simp only [Option.bind_some]
  rw [m2]
  simp only [Option.bind_some]
  rw [m4]
  simp only [Option.bind_some]
  rw [zgK hd,g]
  simp only [Option.bind_some]
  rw [m5];rfl
 ·exact wP (a:=Value.ref s.heap.objs.size) q
def JA(P:PM T)(o:AV)(n:List Nat)(h:Hp)(K:AV→Hp→Prop):Prop:=∀x,J P (V1 o) VV (fun v=>getAttr v (strOf n) x) h K
theorem zkd(H:zum T o n h K):JA P o n h K:=fun x A E Q s W va G I k=>H.go fun r e H=>H.go fun i e1 H=>by
 have H:alt (zar i.2.2 n) (fun v=>req ((T.attrs i.1.1).contains n) (K v h)) (opt (zb3 T i.1.1 n) fun m=>K (.ref h.nx) (h.new (.bound o m))):=H
 obtain ⟨hr,rfl⟩:=(AV.ref?_is e▸I:VR _ _ (.ref r) va)
 obtain ⟨ds,m,D⟩:=zel G.rel hr e1
 rcases (zge (P:=P) (n:=n) D.r).1 with ⟨v,u,g1,g2,g3⟩ | ⟨g1,g2⟩
 ·rw [g1] at H
  exact req.go (H:req _ _) fun a H=>D.val G.rel a g2 (zf9 g3) (k.here G.rel (VR.up (zco i.2.1) g3) H)
 ·rw [g1] at H
  exact opt.go (H:opt _ _) fun f a H=>D.bound G.rel a g2 (k.nu G.rel (o:= .bound o f) rfl (fun X L=>⟨_,rfl,VR.up L (AV.ref?_is e▸(show VR W h.nx (.ref r) (.ref (W.pl r)) from ⟨hr,rfl⟩))⟩) H)
theorem zjw{x C dx:Addr}{v:Value}{name:Str}{k:Nat}{tk:Tok}{R:Result→Shared→Prop}(X:P.c.K.In s.heap)(I:InstAt s.heap x (instObj C dx) C (some (dictOf ds k)))(hd:s.heap.get? dx=some (dictOf ds k))(hp:plainOver P.c.K C=true)(ht:takerIn P.c.K C name=some none)(hh:(clsIn P.c.K C).any (·.hasDict)=true)(hk:ds.any (·.refKey)=false)
  (hz:(putL name (PyData.keyHash P.c.w.params name) (.str name s.toks) v ds).length≤sizeLine) (q:R (.ok (.ret .none)) {s with heap:=s.heap.update dx (Obj.putName name (PyData.keyHash P.c.w.params name) (.str name s.toks) v),toks:=s.toks+1}):codeAny (model P.c.prog P.c.w) A (.call (.builtin "object.__setattr__") ⟨[.ref x, .str name tk,v], []⟩) R s:=by
 refine osa_open X I hp ht fun b=>?_
 obtain ⟨cd,hc,hd'⟩:=any_some hh
 refine wB (wP (wB (wB (wpAny_loadPart I.1 (wB ((looks_clsIn X hc).here ?_))))))
 rw [hd']
 refine wP (a:=some dx) (wB (wP (wB ?_)))
 unfold nsSet
 refine wB (wB (wpAny_askSetting (wP (wB (wpAny_mkText (wB (wpAny_loadPart hd ?_)))))))
 dsimp only
 rw [aRefKeyMayBeTheName_at,show (!ds.toArray.any (·.key.isStr name)&&ds.toArray.any (·.refKey))=false from by rw [show ds.toArray.any (·.refKey)=ds.any (·.refKey) from by rw [←Array.any_toList],hk,Bool.and_false]]
 refine wpAny_updatePart hd ?_
 have pn:=putName_dict name (PyData.keyHash P.c.w.params name) (.str name s.toks) v ds k
 have hD:(s.heap.update dx (Obj.putName name (PyData.keyHash P.c.w.params name) (.str name s.toks) v)).get? dx=some (dictOf (putL name (PyData.keyHash P.c.w.params name) (.str name s.toks) v ds) (putN name ds k)):=(Heap.get?_update_self _ hd (pn▸rfl)).trans (congrArg some pn)
 exact wB (wpAny_lookBehind hD (pastItsLine_dict (Nat.le_succ_of_le hz)) (wP q))
theorem ER.put(r:Rs (ER P.c.w R) es ds){x:AV}{v:Value}{t:Tok}(q:R x v):Rs (ER P.c.w R) (zcj es n x) (putL (strOf n) (PyData.keyHash P.c.w.params (strOf n)) (.str (strOf n) t) v ds):=by
 induction r with
 | nil=>exact .cons ⟨t,v,rfl,q⟩ .nil
 | @cons k _ es ds a b ih=>
  obtain ⟨tk,u,rfl,c⟩:=a
  unfold zcj putL
  rw [show Value.isStr (.str (strOf k.1) tk) (strOf n)=(k.1==n) from strOf_beq]
  induction k.1==n with
  | true=>exact .cons ⟨tk,v,rfl,q⟩ b
  | false=>exact .cons ⟨tk,u,rfl,c⟩ ih
theorem zgJ{x:AV}{k:List Nat}:∀{es:List (List Nat×AV)},k∈(zcj es n x).map (·.1)→k∈es.map (·.1)∨k=n
 | [],h=> .inr (List.mem_singleton.mp h)
 | e :: r,h=>by
  unfold zcj at h
  induction q:e.1==n with
  | true=>rw [q] at h;exact .inl h
  | false=>rw [q] at h;exact (cP h).elim (fun z=> .inl (z▸mS)) fun z=>(zgJ z).imp (mM _) id
theorem zfZ{x:AV}:∀{es:List (List Nat×AV)},((es.map (·.1)).Nodup→((zcj es n x).map (·.1)).Nodup)∧(zcj es n x).length≤es.length+1∧zcj es n x≠[]
 | []=>⟨fun X=>List.nodup_cons.mpr ⟨List.not_mem_nil,List.nodup_nil⟩,rL _,List.cons_ne_nil _ _⟩
 | e :: r=>by
  have ih:=zfZ (x:=x) (es:=r)
  unfold zcj
  induction q:e.1==n with
  | true=>exact ⟨id,Nat.le_succ _,List.cons_ne_nil _ _⟩
  | false=>exact ⟨fun h=>List.nodup_cons.mpr ⟨fun z=>(zgJ z).elim (List.nodup_cons.mp h).1 fun z=>beq_eq_false_iff_ne.mp q z,ih.1 (List.nodup_cons.mp h).2⟩,Nat.succ_le_succ ih.2.1,List.cons_ne_nil _ _⟩
theorem zjn{K:Unit→Hp→Prop}(H:zt7 T o n v h K):J P (V2 o v) UU (fun x=>setAttr x.1 (strOf n) x.2) h K:=fun A E Q s W x G I kn=>H.go fun r e H=>H.go fun i e1 H=>H.go fun c H=>by
 obtain ⟨hr,q1⟩:=(AV.ref?_is e▸I.1:VR _ _ (.ref r) x.1)
 obtain ⟨ds,k,D⟩:=zel G.rel hr e1
 have c:=aI c
 have c':=aI c.1
 obtain ⟨c1,c2,c3,c4,c5⟩:=P.S.cls _ (zcd c'.1).2
 have hp:=ER.put (n:=n) (t:=s.toks+1) D.r (ziK c.2 I.2)
 have z:=zfZ (n:=n) (x:=v) (es:=i.2.2)
 have pn:=putName_dict (strOf n) (PyData.keyHash P.c.w.params (strOf n)) (.str (strOf n) (s.toks+1)) x.2 ds k
 show wpAny _ A (setAttr x.1 (strOf n) x.2) Q E s
 rw [q1]
 exact set_plain (Stat.here G.rel) D.at_ c2 (zjw (s:={s with toks:=s.toks+1}) (show P.c.K.In s.heap from Stat.here G.rel) D.at_ D.d c3 (by unfold takerIn;rw [P.S.attr _ n (zcd c'.1).1];rfl) c4 (zge (P:=P) (n:=n) D.r).2 (by rw [←hp.len];exact lT z.2.1 (lT (blt c'.2) (by decide)))
  (kn (.set G.rel (k:=i.1.2) (.dict i.2.1 (zcj i.2.2 n v)) D.lt D.live (fun X=>⟨_,(Heap.get?_update_self _ D.d (pn▸rfl)).trans (congrArg some pn),_,_,rfl,hp,z.1 D.nd,fun q=>absurd q z.2.2⟩) (fun b o eb hb=>(Heap.get?_update_ne _ _ _ _ hb).trans eb) rfl rfl (Nat.le_of_eq (upd_size ..).symm)) trivial H))
end
end Mn
end
section
open PySem PySem.W PyProof.Rows PySem.Calls PySem.SeqAt
namespace Mn
inductive BM where
 | sJoin | sUpper | sLower | sReplace | sRstrip | sCount | lAppend | lPop | lCount | lReverse | dItems | iBitLength | tGet | rSearch | ePop
def zsy(b:BM):String:=BM.casesOn (motive:=fun X=>String) b "str.join" "str.upper" "str.lower" "str.replace" "str.rstrip" "str.count" "list.append" "list.pop" "list.count" "list.reverse" "dict.items" "int.bit_length" "dict.get" "re.Pattern.search" "set.pop"
noncomputable def tabS:List (Str×BM):=[("join", .sJoin),("upper", .sUpper),("lower", .sLower),("replace", .sReplace),("rstrip", .sRstrip),("count", .sCount)]
noncomputable def tabL:List (Str×BM):=[("append", .lAppend),("pop", .lPop),("count", .lCount),("reverse", .lReverse)]
noncomputable def tabD:List (Str×BM):=[("items", .dItems)]
noncomputable def tabI:List (Str×BM):=[("bit_length", .iBitLength)]
noncomputable def tabT:List (Str×BM):=[("get", .tGet)]
noncomputable def tabR:List (Str×BM):=[("search", .rSearch)]
noncomputable def tabE:List (Str×BM):=[("pop", .ePop)]
set_option genCtorIdx false in
inductive MR where
 | bm (b:BM) (self:AV)
 | um (f:AV) (first:List AV)
def GR(W:Wd)(n:Nat)(m:MR)(r:Value×List Value):Prop:=MR.casesOn (motive:=fun X=>Prop) m (fun b self=>∃v,r=(.builtin (zsy b),[v])∧VR W n self v) fun f first=>VR W n f r.1∧Rs (VR W n) first r.2
def zgG(T:Tabs)(o:AV)(x:Str)(h:Hp):Tr MR:= .al o.str? (fun X=> .os (tabS.lookup x) fun b=> .ret (.bm b o) h) (.al o.int? (fun X=> .os (tabI.lookup x) fun b=> .ret (.bm b o) h)
 (.al o.glob? (fun a=> .bs (T.intTab a).isSome (.os (tabT.lookup x) fun b=> .ret (.bm b o) h) (.rq (T.rx a).isSome (.os (tabR.lookup x) fun b=> .ret (.bm b o) h)))
 (.al (zaY h o) (fun X=> .os (tabL.lookup x) fun b=> .ret (.bm b o) h) (.os o.ref? fun r=> .al (h.at_ r).dict? (fun X=> .os (tabD.lookup x) fun b=> .ret (.bm b o) h) (.al (h.at_ r).set? (fun X=> .os (tabE.lookup x) fun b=> .ret (.bm b o) h)
  (.os (zmm h r) fun i=> .al (zar i.2.2 x.cps.toList) (fun v=> .rq ((T.attrs i.1.1).contains x.cps.toList) (.ret (.um v []) h)) (.os (zb3 T i.1.1 x.cps.toList) fun m=> .ret (.um (.glob m) [o]) h)))))))
def zoz(T:Tabs)(o:AV)(x:Str)(h:Hp)(K:MR→Hp→Prop):Prop:=(zgG T o x h).sem K
def zuY(F:Str→BM→Prop)(l:List (Str×BM)):Prop:=List.rec (motive:=fun X=>Prop) True (fun p X q=>F p.1 p.2∧q) l
def Fact(ty:String)(x:Str)(b:BM):Prop:=Slot ty x (zsy b)∧typeOf (.builtin (zsy b))=pure (.type "method_descriptor")
theorem zc8{F:Str→BM→Prop}{x:Str}{b:BM}:∀{l:List (Str×BM)},zuY F l→l.lookup x=some b→F x b
 | [],_,e=>no e
 | p :: r,f,e=>by
  rw [List.lookup_cons] at e
  induction q:x==p.1 with
  | true=>rw [q] at e;rw [eq_of_beq q];exact sI e▸f.1
  | false=>rw [q] at e;exact zc8 f.2 e
theorem zbL:PlainAttrs "re.Pattern" :=
 ⟨⟨"object.__getattribute__",by rw [typeLookup_type,builtinLookup_eq_fast];kernel_rfl,by decide +kernel⟩,by rw [typeLookup_type,builtinLookup_eq_fast];kernel_rfl⟩
theorem zbs:typeOf (.builtin "re.Pattern.search")=pure (.type "method_descriptor"):=by show builtinType _=_;rw [builtinType_eq_fast];kernel_rfl
theorem zbt:Slot "re.Pattern" "search" "re.Pattern.search" :=
 .of (owner:= "re.Pattern") (n:= "search") (by rw [typeLookup_type,builtinLookup_eq_fast];kernel_rfl) (by decide +kernel) (by decide +kernel) (by decide +kernel)
  (by first | exact .inl (by decide +kernel) | exact .inr (by decide +kernel)) (by rw [isSubtype_type];kernel_rfl)
section
variable {T:Tabs} {P:PM T} {W:Wd} {h:Hp} {s:Shared} {A:Around} {E:Value→Shared→Prop} {o:AV} {K:MR→Hp→Prop} {x:Str} {pl:Sem Bool}
theorem zoV(x:Str):strOf x.cps.toList=x:=rfl
theorem Kn.bm{v:Value}{ty:String}{l:List (Str×BM)}{Q:Value×List Value→Shared→Prop}(k:Kn P GR K W h.nx s Q)(G:Go P W h s A)(hv:VR W h.nx o v)(H:opt (l.lookup x) fun b=>K (.bm b o) h)(pa:PlainAttrs ty)(f:zuY (Fact ty) l)(hT:s.TypeIs v ty)
  (hd:∀a,v = .ref a→∃o,s.heap.get? a=some o∧o.dict=none):wpAny (model P.c.prog P.c.w) A (getMethod v x pl) Q E s:=H.go fun b e H=>
 getMethod_builtin hT pa (zc8 f e).1 (zc8 f e).2 hd (k (.refl G.rel) (show GR _ _ (.bm b o) _ from ⟨v,rfl,hv⟩) H)
theorem zbK{a:Addr}{ob:Obj}(ho:s.heap.get? a=some ob)(hd:ob.dict=none):∀x,Value.ref a = .ref x→∃o,s.heap.get? x=some o∧o.dict=none:=fun X e=>Value.ref.inj e▸⟨_,ho,hd⟩
theorem zhX(tabB:∀a t,T.intTab a=some t→a∉P.c.tabs∧∃es k,P.c.B.get? a=some {cls:= .type "dict",data:= .dict es k})(rxB:∀a f,T.rx a=some f→a∉P.c.tabs∧∃vs,P.c.B.get? a=some {cls:= .type "re.Pattern",data:= .fields vs})
  (H:zoz T o x h K):J P (V1 o) GR (fun v=>getMethod v x pl) h K:=fun A E Q s W v G I k=>by
 show wpAny _ A (getMethod v x pl) Q E s
 have at_:∀{a:Addr} {ob:Obj},a∉P.c.tabs→P.c.B.get? a=some ob→s.heap.get? a=some ob:=fun ht e=>G.rel.amb.base _ _ e ht
 refine H.go (fun z e H=>?_) fun X H=>H.go (fun i e H=>?_) fun X H=>H.go (fun a e H=>?_) fun X H=>H.go (fun p e H=>?_) fun X H=>H.go fun r e H=>?_
 ·exact (AV.str?_is e▸I:VR _ _ (.str z) v).elim fun t q=>k.bm G I H PySem.F.plainAttrs_str ⟨⟨PySem.F.slot_str_join,PySem.F.type_str_join⟩,⟨PySem.F.slot_str_upper,PySem.F.type_str_upper⟩,⟨PySem.F.slot_str_lower,PySem.F.type_str_lower⟩,⟨PySem.F.slot_str_replace,PySem.F.type_str_replace⟩,⟨PySem.F.slot_str_rstrip,PySem.F.type_str_rstrip⟩,⟨PySem.F.slot_str_count,PySem.F.type_str_count⟩,trivial⟩ (q▸typeIs_str _ _ _) fun a e=>nomatch q.symm.trans e
 ·exact (AV.int?_is e▸I:VR _ _ (.int i) v).elim fun t q=>k.bm G I H PySem.F.plainAttrs_int ⟨⟨PySem.F.slot_int_bit_length,PySem.F.type_int_bit_length⟩,trivial⟩ (q▸typeIs_int _ _ _) fun a e=>nomatch q.symm.trans e
 ·obtain rfl:v = .ref a:=(AV.glob?_is e▸I:VR W h.nx (.glob a) v)
  exact H.go (fun e H=>(iE e).elim fun t e=>(tabB a t e).elim fun ht q=>q.elim fun es q=>q.elim fun m q=>k.bm G I H PySem.F.plainAttrs_dict ⟨⟨PySem.F.slot_dict_get,PySem.F.type_dict_get⟩,trivial⟩ ⟨_,at_ ht q,rfl⟩ (zbK (at_ ht q) rfl))
   fun X H=>H.go fun e H=>(iE e).elim fun t e=>(rxB a t e).elim fun ht q=>q.elim fun m q=>k.bm G I H zbL ⟨⟨zbt,zbs⟩,trivial⟩ ⟨_,at_ ht q,rfl⟩ (zbK (at_ ht q) rfl)
 ·obtain ⟨l,vs,m,rfl,q1,q2⟩:=zaj G.rel I e
  exact k.bm G I H PySem.F.plainAttrs_list ⟨⟨PySem.F.slot_list_append,PySem.F.type_list_append⟩,⟨PySem.F.slot_list_pop,PySem.F.type_list_pop⟩,⟨PySem.F.slot_list_count,PySem.F.type_list_count⟩,⟨PySem.F.slot_list_reverse,PySem.F.type_list_reverse⟩,trivial⟩ ⟨_,q1,rfl⟩ (zbK q1 rfl)
 ·have I':VR W h.nx (.ref r) v:=AV.ref?_is e▸I
  obtain ⟨hr,rfl⟩:=I'
  refine H.go (fun p e H=>?_) fun X H=>H.go (fun p e H=>?_) fun X H=>H.go fun i e1 H=>?_
  ·exact (G.rel.obj hr (AO.dict?_is e) rfl).elim fun ob o=>o.2.elim fun ds q=>q.elim fun m q=>k.bm G I H PySem.F.plainAttrs_dict ⟨⟨PySem.F.slot_dict_items,PySem.F.type_dict_items⟩,trivial⟩ ⟨_,o.1,q.1▸rfl⟩ (zbK o.1 (q.1▸rfl))
  ·exact (G.rel.obj hr (AO.set?_is e) rfl).elim fun ob o=>o.2.elim fun ds q=>q.elim fun m q=>q.elim fun t q=>k.bm G I H PySem.F.plainAttrs_set ⟨⟨PySem.F.slot_set_pop,PySem.F.type_set_pop⟩,trivial⟩ ⟨_,o.1,q.1▸rfl⟩ (zbK o.1 (q.1▸rfl))
  ·have H:alt (zar i.2.2 x.cps.toList) (fun v=>req ((T.attrs i.1.1).contains x.cps.toList) (K (.um v []) h)) (opt (zb3 T i.1.1 x.cps.toList) fun m=>K (.um (.glob m) [o]) h):=H
   obtain ⟨ds,m,D⟩:=zel G.rel hr e1
   rcases (zge (P:=P) (n:=x.cps.toList) D.r).1 with ⟨v,u,g1,g2,g3⟩ | ⟨g1,g2⟩
   ·rw [g1] at H
    exact req.go (H:req _ _) fun a H=>(P.S.cls _ (zcd a).2).elim fun c1 c2=>method_usual (Stat.here G.rel) D.at_ c1 c2.2.2.2 (P.S.attr _ _ (zcd a).1) rfl (D.val G.rel a g2 (zf9 g3) (k (.same G.rel rfl rfl rfl) (show GR _ _ (.um v []) _ from ⟨VR.up (zco i.2.1) g3, .nil⟩) H))
   ·rw [g1] at H
    exact opt.go (H:opt _ _) fun f a H=>(P.S.cls _ (zjO a)).elim fun c1 c2=>(P.S.meth _ _ f a).elim fun m1 m2=>method_fn (Stat.here G.rel) D.at_ c1 c2.2.2.2 m1 m2.2.1 (by show (lookIn _ _).map _=_;show (PySem.W.getL _ _).map _=_;rw [←zoV x,g2];rfl) (k (.refl G.rel) (show GR _ _ (.um (.glob f) [o]) _ from ⟨rfl, .cons I .nil⟩) H)
end
noncomputable def a1(l:List AV):Option AV:=List.casesOn (motive:=fun X=>Option AV) l none fun x r=>List.casesOn (motive:=fun X=>Option AV) r (some x) fun X X=>none
noncomputable def a2(l:List AV):Option (AV×AV):=List.casesOn (motive:=fun X=>Option (AV×AV)) l none fun x r=>(a1 r).map fun y=>(x,y)
noncomputable def a3(l:List AV):Option (AV×AV×AV):=List.casesOn (motive:=fun X=>Option (AV×AV×AV)) l none fun x r=>(a2 r).map fun y=>(x,y)
def VS(as:List AV)(W:Wd)(n:Nat)(vs:List Value):Prop:=Rs (VR W n) as vs
def JV{T:Tabs}(P:PM T)(f:Value)(as:List AV)(h:Hp)(K:AV→Hp→Prop):Prop:=J P (VS as) VV (fun vs=>call f vs) h K
def za8(s:List Nat):List Nat:=(PySem.placed (strOf s) fun X c=>Unicode.upperOf c).toList
def zag(s:List Nat):List Nat:=(PySem.placed (strOf s) fun i X=>Unicode.lowerAt (strOf s).cps i).toList
def zaS(s:List Nat):List Nat:=if PySem.stripSame Unicode.isSpace false true (strOf s)=true then s else (PySem.stripped Unicode.isSpace false true (strOf s)).cps.toList
def zdc(s x:List Nat):Nat:=(Builtin.Str.occurrences (strOf s) (strOf x) 0 s.length (s.length+1)).length
noncomputable def zaB(sep:List Nat):List (List Nat)→List Nat
 | []=> []
 | [x]=>x
 | x :: r=>x++sep++zaB sep r
noncomputable def zas(i:Int):Int:=if i=0 then 0 else (i.natAbs.log2:Int)+1
noncomputable def zek(i:Int):Option (List Nat):=if i.natAbs.log2<1920 then some (Str.ofString (toString i)).cps.toList else none
def zb7(s:List Nat):Option Int:=if s.length≤640 then PySem.intText? (strOf s) else none
section
variable {T:Tabs} {P:PM T} {W:Wd} {h:Hp} {s:Shared} {A:Around} {E:Value→Shared→Prop} {as:List AV} {a b d:AV} {K:AV→Hp→Prop} {f:Value} {n:Nat} {vs:List Value} {z x:List Nat} {i j:Int}
theorem c0(H:as = [])(g:∀A E Q s W,Go P W h s A→Kn P VV K W h.nx s Q→wpAny (model P.c.prog P.c.w) A (call f []) Q E s):JV P f as h K:=fun A E Q s W vs G I k=>by
 subst H
 cases I with
 | nil=>exact g A E Q s W G k
theorem c1(e:a1 as=some a)(g:∀A E Q s W v,Go P W h s A→VR W h.nx a v→Kn P VV K W h.nx s Q→wpAny (model P.c.prog P.c.w) A (call f [v]) Q E s):JV P f as h K:=fun A E Q s W vs G I k=>by
 induction I using Rs.casesOn with
 | nil=>exact no e
 | cons p r=>induction r using Rs.casesOn with
  | nil=>exact g A E Q s W _ G (sI e▸p) k
  | cons X Z=>exact no e
theorem c2{p:AV×AV}(e:a2 as=some p)(g:∀A E Q s W v u,Go P W h s A→VR W h.nx p.1 v→VR W h.nx p.2 u→Kn P VV K W h.nx s Q→wpAny (model P.c.prog P.c.w) A (call f [v,u]) Q E s):JV P f as h K:=fun A E Q s W vs G I k=>by
 induction I using Rs.casesOn with
 | nil=>exact no e
 | cons p r=>induction r using Rs.casesOn with
  | nil=>exact no e
  | cons q r=>induction r using Rs.casesOn with
   | nil=>have e:=sI e;subst e;exact g A E Q s W _ _ G p q k
   | cons X Z=>exact no e
theorem c3{p:AV×AV×AV}(e:a3 as=some p)(g:∀A E Q s W v u w,Go P W h s A→VR W h.nx p.1 v→VR W h.nx p.2.1 u→VR W h.nx p.2.2 w→Kn P VV K W h.nx s Q→wpAny (model P.c.prog P.c.w) A (call f [v,u,w]) Q E s):JV P f as h K:=fun A E Q s W vs G I k=>by
 induction I using Rs.casesOn with
 | nil=>exact no e
 | cons p r=>induction r using Rs.casesOn with
  | nil=>exact no e
  | cons q r=>induction r using Rs.casesOn with
   | nil=>exact no e
   | cons t r=>induction r using Rs.casesOn with
    | nil=>have e:=sI e;subst e;exact g A E Q s W _ _ _ G p q t k
    | cons X Z=>exact no e
theorem Kn.made{Q:Value→Shared→Prop}(k:Kn P VV K W h.nx s Q)(G:Go P W h s A){y:Str}(hz:y.length≤sizeLine)(q:K (.str y.cps.toList) h):(Made.str y).post Q s:=⟨hz,k.str G (z:=y.cps.toList) q⟩
theorem zlm(e:a1 as=some (.str z))(hl:Nat.ble (za8 z).length sizeL=true)(H:K (.str (za8 z)) h):JV P (.builtin "str.upper") as h K:=c1 e fun A E Q s W v G I k=>I.elim fun t e=>by
 have hz:(PySem.placed (strOf z) fun X c=>Unicode.upperOf c).size≤sizeLine:=ble hl
 exact e▸call_gives PySem.F.slot_str_upper (typeIs_str _ _ _) PySem.F.entry_str_upper (PySem.F.args_str_upper_1 _) (gives_str_upper _ t (by simpa [Builtin.Str.tooLong] using hz)) (k.made G hz H)
theorem zm0(e:a1 as=some (.str z))(hl:Nat.ble (zag z).length sizeL=true)(H:K (.str (zag z)) h):JV P (.builtin "str.lower") as h K:=c1 e fun A E Q s W v G I k=>I.elim fun t e=>by
 have hz:(PySem.placed (strOf z) fun i X=>Unicode.lowerAt (strOf z).cps i).size≤sizeLine:=ble hl
 exact e▸call_gives PySem.F.slot_str_lower (typeIs_str _ _ _) PySem.F.entry_str_lower (PySem.F.args_str_lower_1 _) (gives_str_lower _ t (by simpa [Builtin.Str.tooLong] using hz)) (k.made G hz H)
theorem zj7(e:a1 as=some (.str z))(hl:Nat.ble z.length sizeL=true)(H:K (.str (zaS z)) h):JV P (.builtin "str.rstrip") as h K:=c1 e fun A E Q s W v G I k=>I.elim fun t e=>by
 refine e▸call_gives PySem.F.slot_str_rstrip (typeIs_str _ _ _) PySem.F.entry_str_rstrip (PySem.F.args_str_rstrip_1 _) (gives_str_rstrip _ t) ?_
 unfold zaS at H
 split
 ·rename_i q;rw [if_pos q] at H;exact k.here G.rel (v:= .str z) ⟨t,rfl⟩ H (tk:=s.toks) (d:=s.drawn)
 ·rename_i q;rw [if_neg q] at H;exact k.made G (fits_stripped _ _ _ (by rw [za4];exact ble hl)) H
theorem zhY{y:List Nat}(e:a3 as=some (.str z, .str x, .str y))(hl:(Builtin.Str.occurrences (strOf z) (strOf x) 0 z.length (z.length+1)).isEmpty=true)(H:K (.str z) h):JV P (.builtin "str.replace") as h K:=c3 e fun A E Q s W v1 v2 v3 G I1 I2 I3 k=>I1.elim fun t e1=>I2.elim fun u e2=>I3.elim fun w e3=>by
 have hl:(Builtin.Str.occurrences (strOf z) (strOf x) 0 (strOf z).length ((strOf z).length+1)).isEmpty=true:=by rw [za4];exact hl
 rw [e1,e2,e3]
 refine call_gives PySem.F.slot_str_replace (typeIs_str _ _ _) PySem.F.entry_str_replace (PySem.F.args_str_replace_3 _ _ _) (gives_str_replace _ _ _ t u w (fun hf=>by rw [hl] at hf;cases hf)) ?_
 rw [hl];exact k.here G.rel (v:= .str z) ⟨t,rfl⟩ H (tk:=s.toks) (d:=s.drawn)
theorem zj5(e:a2 as=some (.str z, .str x))(H:K (.int (zdc z x)) h):JV P (.builtin "str.count") as h K:=c2 e fun A E Q s W v1 v2 G I1 I2 k=>I1.elim fun t e1=>I2.elim fun u e2=>by
 rw [e1,e2]
 refine call_gives PySem.F.slot_str_count (typeIs_str _ _ _) PySem.F.entry_str_count (PySem.F.args_str_count_2 _ _) (gives_str_count _ _ t u) ?_
 rw [za4];exact k.int G H
theorem zpM(e:a1 as=some (.int i))(H:K (.int (zas i)) h):JV P (.builtin "int.bit_length") as h K:=c1 e fun A E Q s W v G I k=>I.elim fun t e=>by
 refine e▸call_gives PySem.F.slot_int_bit_length (typeIs_int _ _ _) PySem.F.entry_int_bit_length (PySem.F.args_int_bit_length_1 _) (AutoIntG2.int_bit_length_int_0 i t) ?_
 have:((Builtin.Int.intBits i:Nat):Int)=zas i:=by
  unfold Builtin.Int.intBits zas
  by_cases h:i=0
  ·rw [h];rfl
  ·rw [if_neg (by simpa using h),if_neg h];rfl
 exact k.int G (this▸H)
theorem zp7(e:a1 as=some (.str z))(hl:Nat.ble z.length sizeL=true)(H:K (.int z.length) h):JV P (.builtin "len") as h K:=c1 e fun A E Q s W v G I k=>I.elim fun t e=>e▸PySem.P.len_str (by rw [za4];exact Int.not_le.mpr (fit hl)) (by rw [za4];exact k.int G H)
theorem zp8{p:Bool×List AV}(e:a1 as=some a)(e1:zaY h a=some p)(hl:Nat.ble p.2.length sizeL=true)(H:K (.int p.2.length) h):JV P (.builtin "len") as h K:=c1 e fun A E Q s W v G I k=>(zaj G.rel I e1).elim fun l q=>q.elim fun vs q=>q.elim fun m q=>q.1▸Calls.call_len_list ⟨_,q.2.1,rfl,_,rfl⟩ (q.2.2.size▸fit hl) (by rw [←q.2.2.size];exact k.int G H)
theorem zqZ{c:Nat}(e:a1 as=some (.str [c]))(H:K (.int c) h):JV P (.builtin "ord") as h K:=c1 e fun A E Q s W v G I k=>I.elim fun t e=>e▸PySem.P.ord_of_char (k.int G H)
theorem zrJ(e:a1 as=some (.int i))(h0:(decide (0≤i)&&decide (i≤1114111))=true)(H:K (.str [i.toNat]) h):JV P (.builtin "chr") as h K:=c1 e fun A E Q s W v G I k=>I.elim fun t e=>e▸PySem.P.chr_of_int (by simp only [Bool.and_eq_true,decide_eq_true_eq] at h0;simp;omega) (k.str G (z:=[i.toNat]) H)
theorem zoi(e:a1 as=some (.int i))(hz:zek i=some z)(H:K (.str z) h):JV P (.type "str") as h K:=c1 e fun A E Q s W v G I k=>I.elim fun t e=>by
 obtain ⟨g,q⟩:=Option.ite_none_right_eq_some.mp hz
 exact e▸PySem.P.str_of_int g (k.str G (z:=(Str.ofString (toString i)).cps.toList) (sI q▸H))
theorem zpe(e:a1 as=some (.str z))(hz:zb7 z=some i)(H:K (.int i) h):JV P (.type "int") as h K:=c1 e fun A E Q s W v G I k=>I.elim fun t e=>by
 obtain ⟨g,q⟩:=Option.ite_none_right_eq_some.mp hz
 exact e▸PySem.W.KIN.call_text q (by rw [za4];exact g) (k.int G H)
theorem Kn.obj{Q:Value→Shared→Prop}(k:Kn P VV K W h.nx s Q)(G:Go P W h s A)(o:AO){ob:Obj}(hl:ob.isFreed=false)(hO:∀W',Le h.nx W (h.nx+1) W'→ObjIs P.c W' (h.nx+1) ob o)(q:K (.ref h.nx) (h.new o)):Q (.ref s.heap.objs.size) {s with heap:=s.heap.push ob}:=k.nu G.rel (tk:=s.toks) (d:=s.drawn) hl hO q
theorem zjl(e:a1 as=some (.int i))(H:K (.ref h.nx) (h.new (.range 0 i 1))):JV P (.type "range") as h K:=c1 e fun A E Q s W v G I k=>I.elim fun t e=>e▸call_range_1 (k.nu (o:= .range 0 i 1) G.rel rfl (fun X X=>⟨_,_,_,rfl⟩) H)
theorem zjk(e:a2 as=some (.int i, .int j))(H:K (.ref h.nx) (h.new (.range i j 1))):JV P (.type "range") as h K:=c2 e fun A E Q s W v1 v2 G I1 I2 k=>I1.elim fun t e1=>I2.elim fun u e2=>e1▸e2▸call_range_2 (k.nu (o:= .range i j 1) G.rel rfl (fun X X=>⟨_,_,_,rfl⟩) H)
theorem zjj{l:Int}(e:a3 as=some (.int i, .int j, .int l))(hk:(l != 0 && !Builtin.divisionGoesByPylong (j-i) l)=true)(H:K (.ref h.nx) (h.new (.range i j l))):JV P (.type "range") as h K:=c3 e fun A E Q s W v1 v2 v3 G I1 I2 I3 k=>I1.elim fun t e1=>I2.elim fun u e2=>I3.elim fun w e3=>by
 have hk:=aI hk
 exact e1▸e2▸e3▸call_range_3 (bne_iff_ne.mp hk.1) (k.obj G (.range i j l) rfl (fun X X=>⟨_,_,_,rfl⟩) H) (.inl (Bool.not_eq_true' _▸hk.2))
theorem zln(e:a1 as=some (.str z))(H:K (.ty .str) h):JV P (.type "type") as h K:=c1 e fun A E Q s W v G I k=>I.elim fun t e=>e▸call_type_of (typeIs_str s _ t) (by decide) (k.here G.rel (v:= .ty .str) rfl H (tk:=s.toks) (d:=s.drawn))
theorem zlo{p:Bool×List AV}(e:a1 as=some a)(e1:zaY h a=some p)(H:K (.ty .list) h):JV P (.type "type") as h K:=c1 e fun A E Q s W v G I k=>(zaj G.rel I e1).elim fun l q=>q.elim fun vs q=>q.elim fun m q=>q.1▸call_type_of (Tx:= "list") ⟨_,q.2.1,rfl⟩ (by decide) (k.here G.rel (v:= .ty .list) rfl H (tk:=s.toks) (d:=s.drawn))
end
end Mn
end
section
open PySem PySem.W PyProof.Rows PySem.Calls PySem.SeqAt PySem.Builtin.Re
namespace Mn
structure Tbl(T:Tabs)(c:Cx):Prop where
 sys:∃o,c.B.get? sysModules=some o
 tab:∀a t,T.intTab a=some t→a∉c.tabs∧a≠sysModules∧(∃es k,c.B.get? a=some {cls:= .type "dict",data:= .dict es k})∧∃f,c.B.MapOf (PySem.intKind c.prog c.w) a f∧∀i,(match t.find? (fun e=>e.1==i) with | some e=>∃u,f i=some (.str (strOf e.2) u) | none=>f i=none)
 rx:∀a f,T.rx a=some f→a∉c.tabs∧∃vs T items n o,c.B.get? a=some {cls:= .type "re.Pattern",data:= .fields vs}∧(∃u,vs.getD 6 .none = .int 0 u)∧vs.getD 5 .none = .ref T∧T∉c.tabs∧c.B.get? T=some o∧o.data = .seq items n∧
  Sre.ops[((items.map reRawOf).map (·.toNat)).getD 0 0]? = some .INFO∧((items.map reRawOf).map (·.toNat)).getD 2 0=4∧f=fun s=>s.any (Mine.rxHit ((items.map reRawOf).map (·.toNat)))
theorem Rs.back{α β:Type}{R:α→β→Prop}{xs:List α}{ys:List β}(h:Rs R xs ys)(n:Nat):Rs R xs.reverse ys.reverse:=by
 induction h with
 | nil=>exact .nil
 | cons a X ih=>rw [List.reverse_cons,List.reverse_cons];exact ih.app (.cons a .nil)
noncomputable def zso(xs:List Int):Option Int:=List.casesOn (motive:=fun X=>Option Int) xs none fun x r=>some (r.foldl max x)
noncomputable def zci(a c:Int)(n:Nat):List Int:=(List.range n).map fun (k:Nat)=>a+(k:Int)*c
section
variable {T:Tabs} {P:PM T} {W:Wd} {h:Hp} {s:Shared} {A:Around} {E:Value→Shared→Prop} {as:List AV} {a b d:AV} {K:AV→Hp→Prop} {f:Value} {n:Nat} {vs:List Value} {z x:List Nat} {i j:Int} {r:Nat} {q:Bool×List AV} {p:AV×AV} {c:Cx}
theorem Step.frz(R:Rel c W h s){s':Shared}{l:Addr}{ob:Obj}(hO:s'.heap.get? l=some ob)(hl:s.heap.objs.size≤l)(hB:c.B.get? l=none)(hk:∀b o,s.heap.get? b=some o→s'.heap.get? b=some o)(hg:s'.gens=s.gens)(ho:s'.os=s.os)(hz:s.heap.objs.size≤s'.heap.objs.size):
  Step c h.nx W s ⟨W.pl,upd W.fz l (some ob)⟩ h s':=by
 have fz:∀b o,W.fz b=some o→b≠l:=fun b o e q=>Nat.not_le_of_lt (Heap.lt_size (R.fz b o e).2.1) (q▸hl)
 have L:Le h.nx W h.nx ⟨W.pl,upd W.fz l (some ob)⟩:=⟨rL _,fun X X=>rfl,fun b o e=>(zae (fz b o e)).trans e⟩
 refine ⟨⟨fun k q u=>(R.at_ k q u).imp id fun ⟨o,h1,h2⟩=>⟨o,hk _ _ h1,h2.up L⟩,R.apart,fun b o e=>?_,R.amb.step (fun b o X=>hk b o) L.fz hg ho⟩,L,hz,fun X a b=>absurd a (Nat.not_le_of_lt b),fun b o e=>?_,fun b o e X X=>hk b o e⟩
 ·by_cases q:b=l
  ·subst q
   obtain rfl:ob=o:=sI (upd_self.symm.trans e)
   exact ⟨hB,hO,fun k q u e=>Nat.not_le_of_lt ((R.at_ k q u).2.elim fun X z=>Heap.lt_size z.1) (e▸hl)⟩
  ·have e:W.fz b=some o:=(zae q).symm.trans e
   exact ⟨(R.fz b o e).1,hk _ _ (R.fz b o e).2.1,(R.fz b o e).2.2⟩
 ·by_cases q:b=l
  ·exact .inr (.inl (q▸hl))
  ·exact .inl ((zae q).symm.trans e)
theorem Rel.outside(R:Rel c W h s){l:Addr}(hl:s.heap.objs.size≤l):c.B.get? l=none:=by
 induction e:c.B.get? l with
 | none=>rfl
 | some o=>
  by_cases ht:l∈c.tabs
  ·exact absurd ((R.amb.tab _ ht).2.elim Heap.lt_size fun ⟨X,Z,q,Y⟩=>Heap.lt_size q) (Nat.not_lt_of_le hl)
  ·exact absurd (Heap.lt_size (R.amb.base _ _ e ht)) (Nat.not_lt_of_le hl)
theorem Kn.tup{Q:Value→Shared→Prop}(k:Kn P VV K W h.nx s Q)(G:Go P W h s A){xs:List SV}{vs:Array Value}{m:Nat}(hv:Rs SR xs vs.toList)(q:K (.tup xs) h){tk:Nat}{d:Drawn}:Q (.ref s.heap.objs.size) {s with heap:=s.heap.push (zbY "tuple" vs m),toks:=tk,drawn:=d}:=
 k (.frz G.rel (ob:=zbY "tuple" vs m) (pZ _ rfl) (rL _) (G.rel.outside (rL _)) (fun X X e=>pS _ e) rfl rfl (by rw [Heap.size_push];exact Nat.le_succ _)) (show VR _ _ (.tup xs) _ from ⟨_,vs,m,rfl,upd_self,hv⟩) q
theorem Kn.newL{Q:Value→Shared→Prop}(k:Kn P VV K W h.nx s Q)(G:Go P W h s A){s':Shared}{l:Addr}{xs:List AV}{vs:Array Value}{m:Nat}(hv:Rs (VR W 0) xs vs.toList)(hO:s'.heap.get? l=some (zbY "list" vs m))(hl:s.heap.objs.size≤l)(hk:∀b o,s.heap.get? b=some o→s'.heap.get? b=some o)(hg:s'.gens=s.gens)(ho:s'.os=s.os)(hz:s.heap.objs.size≤s'.heap.objs.size)(q:nuL false xs h K):Q (.ref l) s':=
 k (.new G.rel (.list false xs) (fun X=>⟨_,hO,vs,m,rfl,VR.ups (Le.put h.nx W l).zero hv⟩) hl (G.rel.outside hl) hk hg ho hz) (show VR _ _ (.ref h.nx) _ from ⟨sS _,congrArg Value.ref upd_self.symm⟩) q
theorem c2r(e:a2 as=some p)(er:p.1.ref? = some r)(e1:(h.at_ r).list? = some q)(g:∀A E Q s W vs m u,Go P W h s A→r<h.nx→s.heap.get? (W.pl r)=some (zbY "list" vs m)→Rs (VR W (lim q.1 h.nx)) q.2 vs.toList→VR W h.nx p.2 u→Kn P VV K W h.nx s Q→wpAny (model P.c.prog P.c.w) A (call f [.ref (W.pl r),u]) Q E s):JV P f as h K:=c2 e fun A E Q s W v u G I1 I2 k=>by
 obtain ⟨hr,rfl⟩:=(AV.ref?_is er▸I1:VR _ _ (.ref r) v)
 exact (zcW G.rel hr e1).elim fun vs z=>z.elim fun m z=>g A E Q s W vs m u G hr z.1 z.2 I2 k
theorem zfE(e:a2 as=some p)(er:p.1.ref? = some r)(e1:(h.at_ r).list? = some q)(c:(Nat.ble q.2.length.succ sizeL&&(q.1 || tf p.2))=true)(H:K .none (h.set r (.list q.1 (q.2 ++ [p.2])))):JV P (.builtin "list.append") as h K:=c2r e er e1 fun A E Q s W vs m u G hr z1 z2 I k=>
 (aI c).elim fun c1 c2=>call_meets slot_list_append ⟨_,z1,rfl⟩ entry_list_append (args_list_append _ _) (AutoListH.list_append_list_val_0 _ vs m u (lO (z2.size▸ble c1))) ⟨z1,k (.seq G.rel hr e1 z1 (Array.toList_push▸z2.app (.cons (ziK c2 I) .nil))) (show VR _ _ .none _ from rfl) H⟩
theorem zoG{xs:List AV}{y:AV}{f:Bool}(e:a2 as=some p)(er:p.1.ref? = some r)(e1:(h.at_ r).list? = some (f,y :: xs))(ei:p.2.int? = some 0)(hl:Nat.ble xs.length.succ sizeL=true)(H:K y (h.set r (.list f xs))):JV P (.builtin "list.pop") as h K:=c2r e er e1 fun A E Q s W vs m u G hr z1 z2 I k=>(AV.int?_is ei▸I:VR _ _ (.int 0) u).elim fun t q=>by
 subst q
 obtain ⟨l⟩:=vs
 cases z2 with
 | @cons _ v _ l p' q'=>
  have hz:l.length+1≤sizeLine:=q'.len▸ble hl
  exact call_meets PySem.F.slot_list_pop ⟨_,z1,rfl⟩ PySem.F.entry_list_pop (PySem.F.args_list_pop_2 _ _) (MeetsSeq.list_pop_at _ ⟨v :: l⟩ m 0 t 0 v rfl (by unfold seqIndex?;simp) (by simp) hz) ⟨z1,k (.seq (g:=f) G.rel hr e1 z1 (by simpa [Array.eraseIdxIfInBounds] using q')) (show VR W h.nx y v from VR.up (zco f) p') H⟩
theorem zhW(e:a1 as=some a)(er:a.ref? = some r)(e1:(h.at_ r).list? = some q)(hl:Nat.ble q.2.length sizeL=true)(H:K .none (h.set r (.list q.1 q.2.reverse))):JV P (.builtin "list.reverse") as h K:=c1 e fun A E Q s W v G I k=>by
 obtain ⟨hr,rfl⟩:=(AV.ref?_is er▸I:VR _ _ (.ref r) v)
 exact (zcW G.rel hr e1).elim fun vs z=>z.elim fun m z=>call_meets F.slot_list_reverse ⟨_,z.1,rfl⟩ F.entry_list_reverse (F.args_list_reverse_1 _) (AutoListH.list_reverse_list_0 _ vs m (z.2.size▸ble hl)) ⟨z.1,k (.seq G.rel hr e1 z.1 (by rw [Array.toList_reverse];exact z.2.back 0)) (show VR _ _ .none _ from rfl) H⟩
theorem zox(e:a1 as=some a)(er:a.ref? = some r)(e1:(h.at_ r).list? = some q)(H:K (.ref h.nx) (h.new (.revit r ((q.2.length:Int)-1)))):JV P (.type "reversed") as h K:=c1 e fun A E Q s W v G I k=>by
 obtain ⟨hr,rfl⟩:=(AV.ref?_is er▸I:VR _ _ (.ref r) v)
 exact (zcW G.rel hr e1).elim fun vs z=>z.elim fun m z=>call_reversed_list ⟨_,z.1,rfl,_,rfl⟩ (by rw [←z.2.size];exact k.nu (o:= .revit r _) G.rel (tk:=s.toks) (d:=s.drawn) rfl (fun W' L=>⟨Nat.lt_succ_of_lt hr,rfl,by rw [L.pl r hr];rfl⟩) H)
theorem c1l(e:a1 as=some a)(e1:zaY h a=some q)(g:∀A E Q s W l vs m,Go P W h s A→VR W h.nx a (.ref l)→s.heap.get? l=some (zbY "list" vs m)→Rs (VR W (lim q.1 h.nx)) q.2 vs.toList→Kn P VV K W h.nx s Q→wpAny (model P.c.prog P.c.w) A (call f [.ref l]) Q E s):JV P f as h K:=c1 e fun A E Q s W v G I k=>
 (zaj G.rel I e1).elim fun l z=>z.elim fun vs z=>z.elim fun m z=>by obtain ⟨rfl,z1,z2⟩:=z;exact g A E Q s W l vs m G I z1 z2 k
theorem zd3:∀{is:List Int} {vs:List Value},Rs (VR W n) (is.map .int) vs→IntsAre vs is
 | [],_,h=>by cases h;exact .nil
 | i :: r,_,h=>by
  cases h with
  | cons a q=>obtain ⟨t,rfl⟩:=a;exact .cons i t (zd3 q)
theorem zl6:∀{ss:List (List Nat)} {vs:List Value},Rs (VR W n) (ss.map .str) vs→∃l:List (Str×Tok),vs=strValues l∧l.map (·.1)=ss.map strOf
 | [],_,h=>by cases h;exact ⟨[],rfl,rfl⟩
 | z :: ss,_,h=>by
  cases h with
  | cons a q=>obtain ⟨t,rfl⟩:=a;exact (zl6 q).elim fun l e=>⟨(strOf z,t) :: l,by rw [e.1];rfl,congrArg (strOf z :: ·) e.2⟩
theorem zdr(sep:List Nat):∀ss:List (List Nat),Str.join (strOf sep) (ss.map strOf)=strOf (zaB sep ss)
 | []=>rfl
 | [x]=>rfl
 | x :: y :: r=>by
  have:=zdr sep (y :: r)
  simp only [List.map_cons,Str.join,zaB] at this⊢
  rw [this,zaR,zaR]
theorem zpa{ss:List (List Nat)}(e:a2 as=some p)(ez:p.1.str? = some z)(e1:zaY h p.2=some q)(es:q.2=ss.map .str)(hl:Nat.ble ((ss.map List.length).sum+ss.length*z.length) sizeL=true)(H:K (.str (zaB z ss)) h):JV P (.builtin "str.join") as h K:=c2 e fun A E Q s W v u G I1 I2 k=>(AV.str?_is ez▸I1:VR _ _ (.str z) v).elim fun t et=>(zaj G.rel I2 e1).elim fun l w=>w.elim fun vs w=>w.elim fun m w=>by
 obtain ⟨rfl,z1,z2⟩:=w
 rw [et]
 obtain ⟨l',hv,hm⟩:=zl6 (es▸z2)
 have hk:Builtin.Str.tooLong ((l'.map (·.1)).toArray.foldl (· + ·.length+(strOf z).length) 0)=false:=by
  rw [hm,StrLaws.joinTotal,za4,List.map_map,List.length_map]
  have:(fun x:Str=>x.length) ∘ strOf=List.length:=funext za4
  rw [this]
  have hl:_≤sizeLine:=ble hl
  simpa [Builtin.Str.tooLong] using hl
 refine call_meets PySem.F.slot_str_join (typeIs_str _ _ _) PySem.F.entry_str_join (PySem.F.args_str_join_2 _ _) (meets_str_join_list _ t l l' hk) ⟨⟨_,z1,rfl,m,by rw [←hv];rfl⟩,post_join l' ⟨joinFit_length hk,fun t' tk=>?_⟩⟩
 have:Txt.join (strOf z) (l'.map (·.1))=strOf (zaB z ss):=by
  show Builtin.Str.glued _ _=_
  rw [hm,StrLaws.glued_eq_join,zdr]
 rw [this]
 exact k.str G H (d:=s.drawn)
theorem zkn(e:a2 as=some (.int i, .int j))(c:(j != 0 && !Builtin.divisionGoesByPylong i j)=true)(H:K (.tup [.int (i.fdiv j), .int (i.fmod j)]) h):JV P (.builtin "divmod") as h K:=c2 e fun A E Q s W v1 v2 G I1 I2 k=>I1.elim fun t e1=>I2.elim fun u e2=>by
 have c:=aI c
 exact e1▸e2▸PyProof.Rows.divmod_int (bne_iff_ne.mp c.1) (k.tup G (xs:= [.int (i.fdiv j), .int (i.fmod j)]) (vs:= #[_,_]) (.cons ⟨_,rfl⟩ (.cons ⟨_,rfl⟩ .nil)) H (d:=s.drawn)) (.inl (Bool.not_eq_true' _▸c.2))
theorem Kn.kept{Q:Value→Shared→Prop}(k:Kn P VV K W h.nx s Q)(G:Go P W h s A){v:AV}{val:Value}{h':Heap}{tk:Nat}(r:VR W h.nx v val)(hk:∀b o,s.heap.get? b=some o→h'.get? b=some o)(q:K v h)(hz:s.heap.objs.size≤h'.objs.size):Q val {s with heap:=h',toks:=tk}:=k (.keeps G.rel hk rfl rfl hz) r q
theorem zqD{is:List Int}(e:a1 as=some a)(e1:zaY h a=some q)(es:q.2=is.map .int)(H:K (.int is.sum) h):JV P (.builtin "sum") as h K:=c1l e e1 fun A E Q s W l vs m G X z1 z2 k=>by
 have hi:=zd3 (es▸z2)
 obtain ⟨ys,ey⟩:=(show AllInts vs from by have:=hi.allInts;simpa using this).items
 have hns:is=ys.toList.map (·.1):=by
  have:=hi.numsOf
  rw [←this,←nums_intItems,←ey]
 subst ey
 refine wpAny_sz (sum_intListG G.room.hand ⟨_,z1,rfl,_,rfl⟩ fun h' tk t' hk=>?_)
 rw [preSum_eq,List.take_of_length_le (by simp),←hns]
 exact k.kept G (v:= .int is.sum) ⟨_,rfl⟩ hk H
theorem zlX(x:Int)(r:List Int):(r.foldl max x)∈x :: r∧∀y∈x :: r,y≤r.foldl max x:=by
 induction r generalizing x with
 | nil=>exact ⟨mS,fun y hy=>(List.mem_singleton.mp hy)▸Int.le_refl _⟩
 | cons y r ih=>
  obtain ⟨h1,h2⟩:=ih (max x y)
  rw [List.foldl_cons]
  refine ⟨(cP h1).elim (fun h=>?_) fun h=>mM _ (mM _ h),fun z hz=>?_⟩
  ·rw [h];exact (Int.le_total x y).elim (fun q=>by rw [Int.max_eq_right q];exact mM _ mS) fun q=>by rw [Int.max_eq_left q];exact mS
  ·have h3:=h2 (max x y) mS
   exact (cP hz).elim (fun e=>by rw [e];exact Int.le_trans (Int.le_max_left x y) h3) fun hz=>(cP hz).elim (fun e=>by rw [e];exact Int.le_trans (Int.le_max_right x y) h3) fun hz=>h2 z (mM _ hz)
theorem zf2(xs:Array (Int×Tok))(i:Nat):numAt xs i=(xs.toList.map (·.1)).getD i 0:=by
 simp [numAt,List.getD_eq_getElem?_getD,List.getElem?_map]
theorem zra{is:List Int}{x:Int}{r:List Int}(e:a1 as=some a)(e1:zaY h a=some q)(es:q.2=is.map .int)(e2:is=x :: r)(H:K (.int (r.foldl max x)) h):JV P (.builtin "max") as h K:=c1l e e1 fun A E Q s W l vs m G X z1 z2 k=>by
 have hi:=zd3 (es▸z2)
 obtain ⟨ys,ey⟩:=(show AllInts vs from by have:=hi.allInts;simpa using this).items
 have hns:x :: r=ys.toList.map (·.1):=by
  have:=hi.numsOf
  rw [←e2,←this,←nums_intItems,←ey]
 have hsz:ys.size=r.length+1:=by simpa using (congrArg List.length hns).symm
 subst ey
 refine wpAny_sz (max_intList G.room.hand ⟨_,z1,rfl,_,rfl⟩ (hsz▸Nat.succ_pos _) fun v h' tk hv hk=>?_)
 obtain ⟨t,rfl⟩:=intItems_at hv
 obtain ⟨h1,h2⟩:=argBest_gt (numAt ys) (ys.size-1)
 obtain ⟨m1,m2⟩:=zlX x r
 have hM:numAt ys (argBest (fun i j=>decide (numAt ys i>numAt ys j)) (ys.size-1))=r.foldl max x:=by
  apply Int.le_antisymm
  ·apply m2
   rw [hns,zf2]
   exact getD_mem (by rw [List.length_map,Array.length_toList];exact lE h1 (Nat.sub_lt (hsz▸Nat.succ_pos _) Nat.one_pos))
  ·rw [hns] at m1
   obtain ⟨j,hj,ej⟩:=mem_getD m1
   rw [List.length_map,Array.length_toList] at hj
   rw [←ej,←zf2]
   exact h2 j (Nat.le_sub_one_of_lt hj)
 rw [hM]
 exact k.kept G (v:= .int (r.foldl max x)) ⟨_,rfl⟩ hk H
end
theorem zct:typeLookup (.type "method") "__call__" =pure (some (.builtin "method.__call__")):=by rw [typeLookup_type,builtinLookup_eq_fast];kernel_rfl
theorem zij:entryFor table "iter" =some Builtin.«iter»:=entryFor_of_fast (by kernel_rfl)
theorem zix(a b:Value):argsOk "iter" ⟨[a,b],[]⟩:=by unfold argsOk;kernel_rfl
theorem zjg(x y z:Int):0≤Builtin.Range.rangeSize x y z:=by
 unfold Builtin.Range.rangeSize
 split
 ·split
  ·have:=Int.ediv_nonneg (a:=y-x-1) (b:=z) (by lia) (by lia);lia
  ·lia
 ·split
  ·have:=Int.ediv_nonneg (a:=x-y-1) (b:=-z) (by lia) (by lia);lia
  ·lia
noncomputable def zgz(t:List (Int×List Nat))(i:Int):AV:=Option.casesOn (motive:=fun X=>AV) (t.find? fun e=>e.1==i) .none fun e=> .str e.2
section
variable {T:Tabs} {P:PM T} {W:Wd} {h:Hp} {s:Shared} {A:Around} {E:Value→Shared→Prop} {as:List AV} {a b d:AV} {K:AV→Hp→Prop} {f:Value} {n:Nat} {vs:List Value} {z x:List Nat} {i j:Int} {r:Nat} {q:Bool×List AV} {p:AV×AV} {c:Cx} {l:Addr}
theorem zof(B:Tbl T P.c){t:List (Int×List Nat)}(e:a2 as=some p)(el:p.1.glob? = some l)(et:T.intTab l=some t)(ei:p.2.int? = some i)(H:K (zgz t i) h):JV P (.builtin "dict.get") as h K:=c2 e fun A E Q s W v u G I1 I2 k=>(AV.int?_is ei▸I2:VR _ _ (.int i) u).elim fun w ew=>by
 obtain rfl:v = .ref l:=(AV.glob?_is el▸I1:VR W h.nx (.glob l) v)
 obtain ⟨h1,h2,X,f,⟨o,es,ep,q1,q2,q3,q4,q5⟩,h4⟩:=B.tab l t et
 have hM:s.heap.MapOf (PySem.intKind P.c.prog P.c.w) l f:=⟨o,es,ep,G.rel.amb.base _ _ q1 h1,q2,q3,q4,q5⟩
 rw [ew]
 refine call_meetsIn PySem.F.slot_dict_get hM.typeIs PySem.F.entry_dict_get (PySem.F.args_dict_get_2 _ _) (meets_dict_get (PySem.intKind P.c.prog P.c.w) l (k:=i) (by simp [PySem.intKind,Value.isInt]) (beq_eq_false_iff_ne.mpr h2)) ⟨_,hM,?_⟩
 have q:=h4 i
 unfold zgz at H
 show Q _ _
 induction e:t.find? fun e=>e.1==i with
 | none=>rw [e] at q H;rw [q];exact k.here G.rel (v:= .none) rfl H (tk:=s.toks+1) (d:=s.drawn)
 | some y=>rw [e] at q H;obtain ⟨v,q⟩:=q;rw [q];exact k.here G.rel (v:= .str y.2) ⟨v,rfl⟩ H (tk:=s.toks+1) (d:=s.drawn)
theorem Go.nosys(B:Tbl T P.c)(G:Go P W h s A)(hr:r<h.nx)(l:(h.at_ r).live=true):(W.pl r==sysModules)=false:=by
 refine beq_eq_false_iff_ne.mpr fun q=>?_
 obtain ⟨o,e⟩:=B.sys
 exact no ((q▸(G.rel.at_ r hr l).1:P.c.B.get? sysModules=none).symm.trans e)
theorem zmh(B:Tbl T P.c){f:Bool}(e:a1 as=some a)(er:a.ref? = some r)(e1:(h.at_ r).dict? = some (f,[]))(H:K (.ref h.nx) (h.new (.items r))):JV P (.builtin "dict.items") as h K:=c1 e fun A E Q s W v G I k=>by
 obtain ⟨hr,rfl⟩:=(AV.ref?_is er▸I:VR _ _ (.ref r) v)
 obtain ⟨ob,p2,⟨l⟩,m,rfl,p3,X⟩:=G.rel.obj hr (AO.dict?_is e1) rfl
 cases p3
 exact call_meetsIn PySem.F.slot_dict_items ⟨_,p2,rfl⟩ PySem.F.entry_dict_items (PySem.F.args_dict_items_1 _) (meets_dict_items (PySem.strKind P.c.prog P.c.w) _ (G.nosys B hr (AO.dict?_is e1▸rfl))) ⟨⟨[],_, #[],m,p2,⟨rfl,rfl,rfl⟩,rfl,fun e he=>absurd he (Array.not_mem_empty _), .nil,List.nodup_nil⟩,
  k.nu (o:= .items r) G.rel (tk:=s.toks) (d:=s.drawn) rfl (fun W' L=>⟨Nat.lt_succ_of_lt hr,by rw [L.pl r hr]⟩) H⟩
theorem search_ok(B:Tbl T P.c){f:List Nat→Bool}(e:a2 as=some p)(el:p.1.glob? = some l)(et:T.rx l=some f)(ez:p.2.str? = some z)(c:(!f z&&Nat.ble z.length sizeL)=true)(H:K .none h):JV P (.builtin "re.Pattern.search") as h K:=c2 e fun A E Q s W v u G I1 I2 k=>(AV.str?_is ez▸I2:VR _ _ (.str z) u).elim fun w ew=>by
 obtain rfl:v = .ref l:=(AV.glob?_is el▸I1:VR W h.nx (.glob l) v)
 obtain ⟨h1,vs,Ta,items,m,o,q1,q2,q3,q4,q5,q6,q7,q8,rfl⟩:=B.rx l f et
 have c:=aI c
 rw [ew]
 exact Mine.search_ok (G.rel.amb.base _ _ q1 h1) q2 q3 (G.rel.amb.base _ _ q5 q4) q6 q7 q8 (fun ch hc=>Bool.not_eq_true _▸List.any_eq_false.mp (Bool.not_eq_true' _▸c.1) ch hc) (lE (show z.length≤sizeL from ble c.2) (by decide)) (k.here G.rel (v:= .none) rfl H (tk:=s.toks) (d:=s.drawn))
theorem zjU{is:List Int}(e:a2 as=some p)(e1:zaY h p.1=some q)(es:q.2=is.map .int)(ei:p.2.int? = some i)(H:K (.int (is.count i)) h):JV P (.builtin "list.count") as h K:=c2 e fun A E Q s W v u G I1 I2 k=>(zaj G.rel I1 e1).elim fun l w=>w.elim fun vs w=>w.elim fun m w=>(AV.int?_is ei▸I2:VR _ _ (.int i) u).elim fun t eu=>by
 obtain ⟨rfl,z1,z2⟩:=w
 rw [eu]
 have key:∀{is:List Int} {vs:List Value},Rs (VR W (lim q.1 h.nx)) (is.map AV.int) vs→(∀y∈vs,EqAt A.in1 s y (.int i t) (zsh i y))∧vs.countP (zsh i)=is.count i:=by
  intro is
  induction is with
  | nil=>intro vs r;cases r;exact ⟨fun X h=>absurd h List.not_mem_nil,rfl⟩
  | cons y ys ih=>
   intro vs r
   cases r with
   | cons a r=>
    obtain ⟨t',rfl⟩:=a
    obtain ⟨i1,i2⟩:=ih r
    exact ⟨fun y h=>(cP h).elim (fun e=>e▸EqAt.int_int _ _ _ _) (i1 y),by rw [List.countP_cons,List.count_cons,i2];rfl⟩
 obtain ⟨k1,k2⟩:=key (es▸z2)
 refine call_meets PySem.F.slot_list_count ⟨_,z1,rfl⟩ PySem.F.entry_list_count (PySem.F.args_list_count_2 _ _) (list_countAt l vs m none #[] (.int i t) (zsh i)) ⟨z1,fun y hy=>k1 y (Array.mem_toList_iff.mpr hy),?_⟩
 rw [k2];exact k.int G H (u:=s.toks) (tk:=s.toks+1) (d:=s.drawn)
theorem zmg{b:AV×Nat}(e:a2 as=some p)(er:p.1.ref? = some r)(e1:(h.at_ r).bound? = some b)(H:K (.ref h.nx) (h.new (.citer p.1 p.2 false))):JV P (.builtin "iter") as h K:=c2 e fun A E Q s W v u G I1 I2 k=>by
 obtain ⟨hr,rfl⟩:=(AV.ref?_is er▸I1:VR _ _ (.ref r) v)
 refine call_function_entry (by decide +kernel) (by decide +kernel) zij (zix _ _) ?_
 unfold Builtin.«iter»
 refine wB (m:=someArgs "iter" 1 2 _) (wpAny_of_eq (a:= [Value.ref (W.pl r),u]) (by first | rfl | kernel_rfl!) ?_)
 dsimp only
 have fin:wpAny (model P.c.prog P.c.w) A.in1 (do ret (←newFields "callable_iterator" [.ref (W.pl r),u, .bool false])) (fun fin s'=>∃v,fin = .done (.ret v)∧Q v s') E s:= 
  wB (wpAny_newObj_type (wP ⟨_,rfl,k.nu (o:= .citer p.1 p.2 false) G.rel (tk:=s.toks) (d:=s.drawn) rfl (fun W' L=>⟨_,_,rfl,I1.up L,I2.up L⟩) H⟩))
 obtain ⟨ob,k2,sv,rfl,k3⟩:=G.rel.obj hr (AO.bound?_is e1) rfl
 refine wB (wpAny_specialOf (T:= "method") ⟨_,k2,rfl⟩ zct ?_)
 rw [if_neg (by simp)]
 exact wB (wpAny_rule fin)
theorem zpq{v:AV}(e:a1 as=some v)(e1:zaY h v=some q)(H:K (.ref (h.nx+1)) ((h.new (.liter v 0)).new (.enumr h.nx 0))):JV P (.type "enumerate") as h K:=c1l e e1 fun A E Q s W l vs m G I z1 z2 k=>by
 refine call_enumerate_list ⟨_,z1,rfl,m,rfl⟩ fun h' i1 i2 hz hk=>?_
 obtain ⟨o,o1,o2,o3⟩:=i2
 have nf:o.isFreed=false:=Obj.isFreed_of_fields o3
 have hsz:(s.heap.push o).objs.size=s.heap.objs.size+1:=Heap.size_push ..
 have S₁:Step P.c h.nx W s (W.put h.nx s.heap.objs.size) (h.new (.liter v 0)) {s with heap:=s.heap.push o}:= .new G.rel (a:=s.heap.objs.size) (.liter v 0) (fun X=>⟨o,pZ _ nf,_,I.up (Le.put ..),o2,o3⟩) (rL _) (G.rel.outside (rL _)) (fun X X e=>pS _ e) rfl rfl
 refine k (S₁.trans (.new S₁.rel (a:=s.heap.objs.size+1) (.enumr h.nx 0) (fun X=>⟨_,i1, .none,Nat.lt_succ_of_lt (sS _),?_⟩) (hsz▸rL _) (S₁.rel.outside (hsz▸rL _)) (fun b ob q=>?_) rfl rfl (hsz▸hz▸Nat.le_succ _))) (show VR _ _ (.ref (h.nx+1)) _ from ⟨sS _,congrArg Value.ref upd_self.symm⟩) H
 ·rw [show ((W.put h.nx s.heap.objs.size).put (h.new (.liter v 0)).nx (s.heap.objs.size+1)).pl h.nx=s.heap.objs.size from (zae (Nat.ne_of_lt (sS _))).trans upd_self];rfl
 ·by_cases hb:b=s.heap.objs.size
  ·subst hb
   obtain rfl:=sI ((pZ _ nf).symm.trans q)
   exact o1
  ·exact hk _ _ ((Heap.get?_push_ne _ _ _ hb).symm.trans q)
theorem zm4{i j l:Int}(e:a1 as=some a)(er:a.ref? = some r)(e1:h.at_ r = .range i j l)(c:(Builtin.Range.small i j l&&decide (Builtin.Range.rangeSize i j l≤sizeL))=true)(H:nuL false ((zci i l (Builtin.Range.rangeSize i j l).toNat).map AV.int) h K):JV P (.type "list") as h K:=c1 e fun A E Q s W v G I k=>by
 obtain ⟨hr,rfl⟩:=(AV.ref?_is er▸I:VR _ _ (.ref r) v)
 have c:=aI c
 have hz:=oD c.2
 have h0:=zjg i j l
 obtain ⟨ob,p2,t,u,v,rfl⟩:=G.rel.obj hr e1 rfl
 refine wpAny_sz (call_list_range (n:=(Builtin.Range.rangeSize i j l).toNat) G.room.hand p2 c.1 (Int.toNat_of_nonneg h0).symm (by unfold sizeL at hz;lia) fun h' tk acc c' hk hat hit=>?_)
 refine fun hz=>k.newL G (s':={s with heap:=h',toks:=tk}) (m:=c') ?_ hat (rL _) hk rfl rfl hz H
 have acc:=acc
 have key:∀{f:Nat→Int} {acc:List Value} (n:Nat),acc.length=n→(∀k v,acc[k]? = some v→∃t,v=Value.int (f k) t)→Rs (VR W 0) (((List.range n).map f).map AV.int) acc:=by
  intro f acc
  induction acc generalizing f with
  | nil=>rintro _ rfl _;exact .nil
  | cons y ys ih=>
   rintro _ rfl q
   rw [List.length_cons,List.range_succ_eq_map,List.map_cons,List.map_cons,show ((List.range ys.length).map Nat.succ).map f=(List.range ys.length).map (f ∘ Nat.succ) from List.map_map]
   exact .cons (q 0 y rfl) (ih (f:=f ∘ Nat.succ) ys.length rfl fun k=>q (k+1))
 exact key _ hit.1 fun k v e=>hit.2 k v (List.getElem?_toArray.trans e)
end
end Mn
end
section
open PySem PySem.W PyProof.Rows PySem.Calls PySem.SeqAt
namespace Mn
open Mine (zad)
noncomputable def leS(a b:List Nat):Bool:=decide (a≤b)
def zfS(l:List (List Nat)):List (List Nat):=l.mergeSort leS
noncomputable def zaa:List (List Nat)→List (List Nat)
 | []=> []
 | x :: r=>bif (zaa r).contains x then zaa r else x :: zaa r
theorem zjS(a b c:List Nat)(h:leS a b=true)(k:leS b c=true):leS a c=true:=dT (List.le_trans (oD h) (oD k))
theorem zjT(a b:List Nat):(leS a b || leS b a)=true:=(List.le_total a b).elim (fun h=>by rw [leS,dT h];rfl) fun h=>by rw [leS,leS,dT h,Bool.or_true]
theorem zgC{xs ys:List (List Nat)}(p:List.Perm ys xs)(h:ys.Pairwise (fun a b=>leS a b=true)):ys=zfS xs:=
 List.Perm.eq_of_pairwise (fun a b X X h1 h2=>List.le_antisymm (oD h1) (oD h2)) h (List.pairwise_mergeSort zjS zjT xs) (p.trans (List.mergeSort_perm xs leS).symm)
theorem zb9:∀(p:Str) (l:List Str),risingS p l=true→(p :: l).Pairwise (fun a b=>leS a.cps.toList b.cps.toList=true)
 | p, [],_=>List.pairwise_singleton _ _
 | p,x :: l,h=>by
  simp only [risingS,Bool.and_eq_true,Bool.not_eq_true',ltCps_eq,decide_eq_false_iff_not] at h
  have ih:=zb9 x l h.2
  have hpx:leS p.cps.toList x.cps.toList=true:=decide_eq_true (by simpa using h.1)
  exact List.pairwise_cons.mpr ⟨fun z hz=>(cP hz).elim (fun e=>e▸hpx) fun hz=>zjS _ _ _ hpx ((List.pairwise_cons.mp ih).1 z hz),ih⟩
theorem zcs:∀(l:List Str),sortedS l=true→l.Pairwise (fun a b=>leS a.cps.toList b.cps.toList=true)
 | [],_=>List.Pairwise.nil
 | x :: r,h=>zb9 x r h
theorem zak(x:List Nat):∀l,x∈zaa l↔x∈l
 | []=>Iff.rfl
 | y :: l=>by
  unfold zaa
  induction h:(zaa l).contains y with
  | true=>exact (zak x l).trans ⟨mM _,fun q=>(cP q).elim (fun q=>q▸(zak y l).mp (List.contains_iff_mem.mp h)) id⟩
  | false=>exact List.mem_cons.trans ((or_congr_right (zak x l)).trans List.mem_cons.symm)
theorem zaw:∀l,(zaa l).Nodup
 | []=>List.nodup_nil
 | y :: l=>by
  unfold zaa
  induction h:(zaa l).contains y with
  | true=>exact zaw l
  | false=>exact List.nodup_cons.mpr ⟨fun q=>nb (h▸List.contains_iff_mem.mpr q),zaw l⟩
theorem zi1{α:Type}[DecidableEq α]{l m:List α}(hl:l.Nodup)(hm:m.Nodup)(h:∀x,x∈l↔x∈m):List.Perm l m:=by
 refine List.perm_iff_count.mpr fun a=>?_
 rw [hl.count,hm.count]
 by_cases q:a∈l
 ·rw [if_pos q,if_pos ((h a).mp q)]
 ·rw [if_neg q,if_neg (mt (h a).mpr q)]
theorem zdY:∀{vs:List Value},(∀v∈vs,∃z u,v = .str z u)→Rs SR (vs.map fun v=> .str (Mine.vStr v).cps.toList) vs
 | [],_=> .nil
 | v :: vs,h=>(h v mS).elim fun z q=>q.elim fun u e=> .cons ⟨u,e▸rfl⟩ (zdY fun x hx=>h x (mM _ hx))
theorem zuJ{R:AV→Value→Prop}(i:∀z v,R (.str z) v→∃t,v = .str (strOf z) t):∀{ss:List (List Nat)} {vs:List Value},Rs R (ss.map .str) vs→StrsAre vs (ss.map strOf)
 | [],_,h=>by cases h;exact .nil
 | z :: ss,_,h=>by
  cases h with
  | cons p q=>obtain ⟨t,rfl⟩:=i _ _ p;exact .cons _ _ (zuJ i q)
theorem zuI:∀{ss:List (List Nat)} {vs:List Value},Rs SR (ss.map .str) vs→StrsAre vs (ss.map strOf)
 | [],_,h=>by cases h;exact .nil
 | z :: ss,_,h=>by
  cases h with
  | cons p q=>obtain ⟨t,rfl⟩:=p;exact .cons _ _ (zuI q)
theorem zuH{W:Wd}{n:Nat}:∀{ss:List (List Nat)} {vs:List Value},StrsAre vs (ss.map strOf)→Rs (VR W n) (ss.map .str) vs
 | [],_,h=>by cases h;exact .nil
 | z :: ss,_,h=>by
  cases h with
  | cons x t q=>exact .cons ⟨t,rfl⟩ (zuH q)
section
variable {T:Tabs} {P:PM T} {W:Wd} {h:Hp} {s:Shared} {A:Around} {E:Value→Shared→Prop} {as:List AV} {a b d:AV} {K:AV→Hp→Prop} {f:Value} {n:Nat} {vs:List Value} {z x:List Nat} {i j:Int} {r:Nat} {q:Bool×List AV} {p:AV×AV} {c:Cx} {l:Addr}
theorem zfj{W':Wd}{n:Nat}:ObjIs P.c W' n (zad #[] 0 (.fresh 0 0 (!P.c.w.params.followText "set-order"))) (.set []):=⟨#[],0,_,rfl,rfl,⟨[],List.Perm.refl _, .nil⟩,fun e he=>absurd he List.not_mem_nil,fun q=>by rw [q];rfl, .inr (Nat.zero_le _)⟩
theorem zos(e:as = [])(H:K (.ref h.nx) (h.new (.set []))):JV P (.type "set") as h K:=c0 e fun A E Q s W G k=>Mine.call_set_nil (k.nu (o:= .set []) G.rel (tk:=s.toks) (d:=s.drawn) rfl (fun X X=>zfj) H)
theorem zoq{ss:List (List Nat)}(e:a1 as=some a)(e1:zaY h a=some q)(es:q.2=ss.map .str)(hl:Nat.blt ss.length 4000=true)(H:K (.ref h.nx) (h.new (.set ((zaa ss).map .str)))):JV P (.type "set") as h K:=c1l e e1 fun A E Q s W l vs m G X z1 z2 k=>by
 have hS:=zuJ (fun X X=>id) (es▸z2)
 have hl':ss.length=vs.size:=by rw [←List.length_map (f:=AV.str),←es];exact z2.size
 refine wpAny_sz (Mine.call_set_texts G.room.hand ⟨_,z1,rfl,m,rfl⟩ hS (Nat.lt_trans (Nat.succ_lt_succ (hl'▸blt hl:vs.size<4000)) (by decide)) fun h' tk T hk hsz=>?_)
 obtain ⟨es,ep,t,b1,b2,b3,b4,b5,b6,b7,b8⟩:=T
 have hr:((List.range vs.size).map fun i=>(ss.map strOf).getD i (Str.ofString ""))=ss.map strOf:=by
  apply List.ext_getElem
  ·rw [List.length_map,List.length_range,List.length_map,hl']
  ·intro i h1 h2
   rw [List.getElem_map,List.getElem_range,List.getD_eq_getElem?_getD,List.getElem?_eq_getElem h2];rfl
 rw [hr] at b7 b8
 have hstr:∀v∈es.toList.map (·.2),∃z u,v=Value.str z u:=fun v hv=>(mP hv).elim fun e he=>(b5 e he.1).elim fun z q=>q.elim fun u q=>⟨z,u,he.2▸congrArg Prod.snd q⟩
 have hperm:List.Perm ((es.toList.map (·.2)).map fun v=>SV.str (Mine.vStr v).cps.toList) ((zaa ss).map .str):=by
  rw [show (es.toList.map (·.2)).map (fun v=>SV.str (Mine.vStr v).cps.toList)=((es.toList.map fun e=>Mine.vStr e.2).map fun x=>x.cps.toList).map SV.str by rw [List.map_map,List.map_map,List.map_map];rfl]
  refine List.Perm.map _ (zi1 (List.Pairwise.map (R:=(·≠·)) _ (fun x y hne q=>hne (congrArg strOf q)) b6) (zaw ss) fun x=>?_)
  rw [zak]
  exact ⟨fun hx=>(mP hx).elim fun y hy=>(mP ((b7 y).mp hy.1)).elim fun z hz=>hy.2▸hz.2▸hz.1,fun hx=>mR ⟨strOf x,(b7 _).mpr (mR ⟨x,hx,rfl⟩),rfl⟩⟩
 refine k (.new G.rel (a:=s.heap.objs.size) (.set ((zaa ss).map .str)) (fun X=>⟨_,b1,es,ep,t,rfl,b2,⟨_,hperm,zdY hstr⟩,fun e he=> .inr ((b5 e he).elim fun z q=>q.elim fun u q=>⟨z,u,q▸⟨rfl,rfl⟩⟩),fun q=>b3.trans (q▸rfl),b4.imp id fun q=>by lia⟩) (rL _) (G.rel.outside (rL _)) (fun b o q=>hk b o (Heap.lt_size q) q) rfl rfl hsz) (show VR _ _ (.ref h.nx) _ from ⟨sS _,congrArg Value.ref upd_self.symm⟩) H
theorem ziP:∀{ys:List SV} {ss:List (List Nat)},List.Perm ys (ss.map .str)→∃zs,ys=zs.map .str∧List.Perm zs ss:=fun {ys ss} p=>by
 refine ⟨ys.filterMap fun v=>SV.casesOn (motive:=fun X=>Option (List Nat)) v none (fun X=>none) (fun X=>none) some,?_,?_⟩
 ·have:∀y∈ys,∃z,y=SV.str z:=fun y hy=>(mP (p.mem_iff.mp hy)).imp fun X q=>q.2.symm
  clear p
  induction ys with
  | nil=>rfl
  | cons y ys ih=>obtain ⟨z,rfl⟩:=this _ mS;exact congrArg (SV.str z :: ·) (ih fun x hx=>this x (mM _ hx))
 ·have:=p.filterMap fun v=>SV.casesOn (motive:=fun X=>Option (List Nat)) v none (fun X=>none) (fun X=>none) some
  rwa [List.filterMap_map,show ((fun v=>SV.casesOn (motive:=fun X=>Option (List Nat)) v none (fun X=>none) (fun X=>none) some) ∘ SV.str)=some from rfl,List.filterMap_some] at this
theorem ziW{xs:List SV}{ss:List (List Nat)}(e:a1 as=some a)(er:a.ref? = some r)(e1:(h.at_ r).set? = some xs)(es:xs=ss.map .str)(hl:Nat.blt ss.length 64=true)(H:nuL false ((zfS ss).map .str) h K):JV P (.builtin "sorted") as h K:=c1 e fun A E Q s W v G I k=>by
 obtain ⟨hr,rfl⟩:=(AV.ref?_is er▸I:VR _ _ (.ref r) v)
 obtain ⟨ob,p2,es',ep,t,rfl,p3,⟨ys,p4,p5⟩,p6,p7,p8⟩:=G.rel.obj hr (AO.set?_is e1) rfl
 obtain ⟨zs,rfl,hzs⟩:=ziP (es▸p4)
 have hS:=zuI p5
 have hl':es'.size=ss.length:=by
  have:=p5.len
  rw [List.length_map,List.length_map,hzs.length_eq,Array.length_toList] at this
  exact this.symm
 refine Mine.sorted_set' G.room.hand p2 p3 p7 p8 (hl'▸blt hl) (fun e he=>hS.all e.2 (mR ⟨e,he,rfl⟩)) fun L h' d tk out ep' tt hk hsz hd hat b1 b2 b3=>?_
 have h1:List.Perm (tt.map fun x=>x.cps.toList) ss:=by
  rw [show (es'.toList.map fun e=>Mine.vStr e.2)=zs.map strOf by have:=hS.strs;rw [List.map_map] at this;exact this] at b2
  have:=b2.map fun x:Str=>x.cps.toList
  rw [List.map_map,show (fun x:Str=>x.cps.toList) ∘ strOf=id from rfl,List.map_id] at this
  exact this.trans hzs
 have h3:=zgC h1 (List.pairwise_map.mpr (zcs tt b3))
 have h4:StrsAre out.toList ((zfS ss).map strOf):=by
  rw [←h3,List.map_map,show (strOf ∘ fun x:Str=>x.cps.toList)=id from rfl,List.map_id];exact b1
 exact k.newL G (s':={s with heap:=h',drawn:=d,toks:=tk}) (m:=ep') (zuH h4) hat hd hk rfl rfl hsz H
end
open Mine (zad)
theorem ztv{t:SetTable}(h:t.fits 1=true):(t.popped 0).fits 0=true∧(t.popped 0).led=t.led:=by
 obtain ⟨j,hj⟩:=Mine.size_one (show t.place.size=1 from by simp only [SetTable.fits,Bool.and_eq_true,beq_iff_eq] at h;exact h.1)
 obtain ⟨mask,place,dummies,finger,led,moves,plain⟩:=t
 dsimp only at hj
 subst hj
 simp only [SetTable.fits,SetTable.fill,Bool.and_eq_true,beq_iff_eq,decide_eq_true_eq,List.size_toArray,List.length_cons,List.length_nil] at h
 refine ⟨?_,rfl⟩
 show ((SetTable.eraseAt #[j] 0).size==0&&decide ((SetTable.eraseAt #[j] 0).size+(SetTable.insertAt dummies (SetTable.below dummies j) j).size≤mask))=true
 have:(SetTable.insertAt dummies (SetTable.below dummies j) j).size=dummies.size+1:=by simpa using (SetTable.insertAt_perm dummies (SetTable.below dummies j) j).length_eq
 rw [show SetTable.eraseAt #[j] 0 = #[] from by simp [SetTable.eraseAt],this]
 simp
 lia
section
variable {T:Tabs} {P:PM T} {W:Wd} {h:Hp} {s:Shared} {A:Around} {E:Value→Shared→Prop} {as:List AV} {a b d:AV} {K:AV→Hp→Prop} {r:Nat} {S:Addr}
theorem zlI{h0:Int}{x:Value}{ep:Nat}{t:SetTable}{Q:Option Value→Shared→Prop}(ho:s.heap.get? S=some (zad #[(h0,x)] ep t))(hf:t.fits 1=true)
  (h:∀d,Q (some x) {s with heap:=s.heap.update S (Obj.putSet #[] (t.popped 0)),drawn:=d}):wpAny (model P.c.prog P.c.w) A (setPop S) Q E s:=by
 have hps:t.place.size=1:=by simp only [SetTable.fits,Bool.and_eq_true,beq_iff_eq] at hf;exact hf.1
 unfold setPop
 refine wB (wpAny_setState_of (o:=zad #[(h0,x)] ep t) ho rfl hf ?_)
 dsimp only
 have hp:t.popPlace=some 0:=by
  unfold SetTable.popPlace
  rw [if_neg (by rw [Array.isEmpty_iff_size_eq_zero];lia)]
  dsimp only
  split
  ·rename_i q;congr 1;lia
  ·rfl
 rw [hp]
 dsimp only
 have fin:∀d,wpAny (model P.c.prog P.c.w) A (match (#[(h0,x)]:Array (Int×Value))[0]? with
   | some (_,x)=>do
    storeSet S (SetTable.eraseAt #[(h0,x)] 0) (t.popped 0)
    return some x
   | _=>unsupported "internal:set.pop") Q E {s with drawn:=d}:=fun d=>by
  show wpAny _ _ (do storeSet S (SetTable.eraseAt #[(h0,x)] 0) (t.popped 0);return some x) _ _ _
  rw [show SetTable.eraseAt #[(h0,x)] 0 = #[] from by simp [SetTable.eraseAt]]
  exact wB (wpAny_storeSet_of (o:=zad #[(h0,x)] ep t) (s:={s with drawn:=d}) ho rfl (wP (h d)) (Nat.zero_le _))
 refine wB (Mine.byText_ok ?_)
 induction hb:P.c.w.params.followText "set-order" with
 | true=>
  refine wpAny_bind (m:=(choose .order 1:Sem Nat)) (Mine.wpAny_choose (by simp) fun i hi d=>?_)
  obtain rfl:i=0:=by lia
  exact fin d
 | false=>
  split
  ·rename_i q
   exact absurd q (by show¬(false || (!t.plain&&decide ((#[(h0,x)]:Array (Int×Value)).size>1)))=true;simp)
  ·refine wB (m:=(if (!t.led&&decide ((#[(h0,x)]:Array (Int×Value)).size>1))=true then unsupported "set:maker-not-led" else pure ())) ?_
   refine Mine.wIfN (by simp) ?_
   exact wP (wB (wP (fin s.drawn)))
theorem zoo{x:SV}(e:a1 as=some a)(er:a.ref? = some r)(e1:(h.at_ r).set? = some [x])(H:K x.av (h.set r (.set []))):JV P (.builtin "set.pop") as h K:=c1 e fun A E Q s W v G I k=>by
 obtain ⟨hr,rfl⟩:=(AV.ref?_is er▸I:VR _ _ (.ref r) v)
 obtain ⟨ob,p2,es,ep,t,rfl,p3,⟨ys,p4,p5⟩,p6,p7,p8⟩:=G.rel.obj hr (AO.set?_is e1) rfl
 obtain rfl:=List.perm_singleton.mp p4
 have hl:=p5.len
 obtain ⟨⟨h0,v⟩,rfl⟩:=Mine.size_one (show es.size=1 from by simpa using hl.symm)
 have hv:SR x v:=by cases p5 with | cons p q=>exact p
 obtain ⟨f1,f2⟩:=ztv p3
 refine wpAny_call_entry PySem.F.slot_set_pop ⟨_,p2,rfl⟩ Mine.entry_set_pop ?_ (PySem.F.args_set_pop_1 _)
 unfold Builtin.«set.pop»
 refine wB (m:=Builtin.Frozenset.noArgs "pop" _) ?_
 unfold Builtin.Frozenset.noArgs
 dsimp only
 show wpAny _ _ (Builtin.Frozenset.addrOf (.ref (W.pl r))) _ _ _
 unfold Builtin.Frozenset.addrOf
 refine wP (wB (zlI p2 p3 fun d=>wP ⟨v,rfl,k (.set (s':={s with heap:=s.heap.update (W.pl r) (Obj.putSet #[] (t.popped 0)),drawn:=d}) G.rel (k:=r) (.set []) hr (AO.set?_is e1▸rfl) (fun X=>⟨_,Mine.store_at (es':= #[]) (t':=t.popped 0) p2, #[],ep+1,_,rfl,f1,⟨[],List.Perm.refl _, .nil⟩,fun e he=>absurd he List.not_mem_nil,fun q=>f2.trans (p7 q), .inr (Nat.zero_le _)⟩) (fun b o q hb=>(Heap.get?_update_other _ _ (Ne.symm hb)).trans q) rfl rfl (by rw [upd_size];exact rL _)) (show VR _ _ x.av _ from hv.vr) H⟩))
def JE(P:PM T)(fr:Fr)(e:Expr)(h:Hp)(K:AV→Hp→Prop):Prop:=J P (FI P fr) VV (fun env=>eval e env) h K
theorem zeh{env:Env}{fr:Fr}{Q:Bool→Shared→Prop}(R:Rel P.c W h s)(F:FrAt P.c W h.nx env fr)(ht:fr.tab.isSome=true)(q:∀b,Q b s):wpAny (model P.c.prog P.c.w) A (inMainModule env) Q E s:=by
 obtain ⟨⟨t,l,k⟩,e⟩:=iE ht
 obtain ⟨X,Z,a,e1,e2,Y,I⟩:=F.tab t l k e
 obtain ⟨o,vs,file,tf,flags,tg,inF,text,tt,op,q1,q2,q3,q4,X⟩:=I
 unfold inMainModule
 rw [e1]
 refine Mine.wIfN (by simp) ?_
 refine wB (wpAny_fieldsOf (R.amb.base _ _ q1 e2) q2 ?_)
 rw [q4]
 exact wB (wpAny_askSetting (wP (q _)))
def setK(h:Hp)(K:AV→Hp→Prop)(v:AV)(h':Hp):Prop:=opt v.int? fun i=>opt (h'.at_ h.nx).set? fun xs=>req xs.isEmpty (K (.ref h.nx) (h'.set h.nx (.set [.int i])))
theorem zor{fr:Fr}{x:Str}{p pos:Pos}(ht:fr.tab.isSome=true)(H:JE P fr (.Name x p) (h.new (.set [])) (setK h K)):JE P fr (.Set [.Name x p] 0 pos) h K:=fun A E Q s W env G F k=>by
 show wpAny _ A (eval (.Set [.Name x p] 0 pos) env) Q E s
 rw [arm_eval_Set]
 refine wB (wpAny_standAt (wB (zeh G.rel F ht fun b=>?_)))
 show wpAny _ _ (setDisplay .oneByOne b [(false,do let v←eval (.Name x p) env;standAt pos;pure v)]) _ _ _
 unfold setDisplay
 dsimp only
 refine Mine.wIfN (by decide) ?_
 refine wB (Mine.newSet_led ?_)
 dsimp only
 have S₁:Step P.c h.nx W s (W.put h.nx s.heap.objs.size) (h.new (.set [])) {s with heap:=s.heap.push (zad #[] 0 (.fresh 0 0 (!P.c.w.params.followText "set-order")))}:=
  .new G.rel (a:=s.heap.objs.size) (.set []) (fun X=>⟨_,pZ _ rfl,zfj⟩) (rL _) (G.rel.outside (rL _)) (fun X X e=>pS _ e) rfl rfl
 refine wB (wH (wB (m:=evalAll [do let v←eval (.Name x p) env;standAt pos;pure v]) ?_))
 show wpAny _ _ ((do let v←eval (.Name x p) env;standAt pos;pure v)>>=fun v=>holding [v] (pure [])>>=fun r=>pure (v :: r)) _ _ _
 refine wB (wB (H _ _ _ _ _ env (G.step S₁ (W₀:=W)) (F.up S₁.le) fun W' v val h' s' S₂ V q=>q.go fun i e1 q=>q.go fun xs e2 q=>q.go fun e3 q=>?_))
 obtain ⟨tk,rfl⟩:=(AV.int?_is e1▸V:VR _ _ (.int i) val)
 refine wB (wpAny_standAt (wP (wB (wH (wP (wP (wB (wH ?_))))))))
 refine wB (m:=forIn [Value.int i tk] PUnit.unit (fun x X=>do let _←setAdd s.heap.objs.size x;pure (ForInStep.yield PUnit.unit))) ?_
 rw [List.forIn_cons]
 have ll:h.nx<h'.nx:=S₂.le.le
 have pl:W'.pl h.nx=s.heap.objs.size:=(S₂.le.pl h.nx (sS _)).trans upd_self
 obtain ⟨ob,p2,es,ep,t,rfl,p3,⟨ys,p4,p5⟩,p6,p7,p8⟩:=S₂.rel.obj ll (AO.set?_is e2) rfl
 obtain rfl:xs = []:=eI e3
 obtain rfl:=List.perm_nil.mp p4
 have he:es = #[]:=Array.size_eq_zero_iff.mp (by simpa using p5.len.symm)
 subst he
 rw [pl] at p2
 unfold setAdd
 have hk:(PySem.intKind P.c.prog P.c.w).is i (.int i tk)=true:=by simp [PySem.intKind,Value.isInt]
 refine wB (wB (wH (wB ((PySem.intKind P.c.prog P.c.w).pyHash (k:=i) hk ?_))))
 refine Mine.addHashed_ok (s:={s' with toks:=s'.toks+1}) (knd:=PySem.intKind P.c.prog P.c.w) hk rfl p2 p3 (fun e he=>absurd he List.not_mem_nil) (by decide) (fun h0=>h0.elim fun e he=>absurd he.1 List.not_mem_nil) (fun h1 h'' es' ep' t' a1 a2 a3 a4 a5 a6=>?_)
 refine wP ?_
 dsimp only
 rw [List.forIn_nil]
 refine wP ?_
 have e2':es' = #[(hashInt i, .int i tk)]:=Array.toList_inj.mp (List.perm_singleton.mp a3)
 subst e2'
 refine Mine.wIfN (by decide) ?_
 refine wP (wB (m:=forIn ([]:List (Bool×Sem Value)) PUnit.unit _) ?_)
 rw [List.forIn_nil]
 exact wP (wP (wP (k ((S₁.trans S₂).trans (.set (s':={s' with heap:=h'',toks:=s'.toks+1}) S₂.rel (k:=h.nx) (.set [.int i]) ll (AO.set?_is e2▸rfl) (fun X=>pl▸⟨_,a2,_,ep',t',rfl,a4,⟨[.int i],List.Perm.refl _, .cons ⟨tk,rfl⟩ .nil⟩,fun e he=> .inl ⟨i,tk,List.mem_singleton.mp he▸⟨rfl,rfl⟩⟩,fun q=>a5.trans (p7 q), .inr (rL _)⟩) (fun b o q hb=>(a1.2 b (pl▸hb)).trans q) rfl rfl (Nat.le_of_eq a1.1.symm))) (show VR _ _ (.ref h.nx) _ from ⟨ll,congrArg Value.ref pl.symm⟩) q)))
end
def exE{α:Type}(a:α)(comp call sl st lst set:α)(e:Expr):α:=Expr.casesOn (motive_1:=fun X=>α) e (fun X X X=>a) (fun X X X=>a) (fun X X X X=>a) (fun X X X=>a) (fun X X X X=>a) (fun X X X X=>a) (fun X X X=>a) (fun X X X=>set) (fun X X X X=>comp) (fun X X X X=>comp) (fun X X X X X=>comp) (fun X X X X=>a) (fun X X=>a) (fun X X=>a) (fun X X=>a) (fun X X X X=>a) (fun X X X X=>call) (fun X X X X=>a) (fun X X=>a) (fun X X X=>a) (fun X X X=>a) (fun X X X=>a) (fun X X=>st) (fun X X=>a) (fun X X=>lst) (fun X X X=>a) (fun X X X X=>sl)
def zbd(e:Expr):Bool:=exE false true false false false false false e
noncomputable def ztq(e:Expr):Bool:=Expr.casesOn (motive_1:=fun X=>Bool) e (fun X X X=>false) (fun X X X=>false) (fun X X X X=>false) (fun X X X=>false) (fun X X X X=>false) (fun X X X X=>false) (fun X X X=>false) (fun X X X=>false) (fun X X X X=>false) (fun X X X X=>false) (fun X X X X X=>false) (fun X X X X=>false) (fun X X=>false) (fun X X=>false) (fun X X=>false) (fun X X X X=>false) (fun X X X X=>false) (fun X X X X=>false) (fun X X=>false) (fun X X X=>false) (fun X X X=>false) (fun X X X=>false) (fun X X=>false) (fun X X=>true) (fun X X=>false) (fun X X X=>false) (fun X X X X=>false)
def zdH(e:Expr):Bool:=Expr.casesOn (motive_1:=fun X=>Bool) e (fun X X X=>false) (fun X X X=>false) (fun X X X X=>false) (fun X X X=>false) (fun X X X X=>false) (fun X X X X=>false) (fun X X X=>false) (fun X X X=>false) (fun X X X X=>false) (fun X X X X=>false) (fun X X X X X=>false) (fun X X X X=>false) (fun X X=>false) (fun X X=>false) (fun X X=>false) (fun X X X X=>false) (fun f as ks X=>ztq f&&(as.isEmpty&&ks.isEmpty)) (fun X X X X=>false) (fun X X=>false) (fun X X X=>false) (fun X X X=>false) (fun X X X=>false) (fun X X=>false) (fun X X=>false) (fun X X=>false) (fun X X X=>false) (fun X X X X=>false)
def zuj(e:Expr):Bool:=exE false false false true false false false e
def zui(e:Expr):Bool:=exE false false false false true false false e
def zgb(e:Expr):Bool:=exE false false false false false false true e
noncomputable def ztS{α:Type}(f:α→Bool)(l:List α):Bool:=List.rec (motive:=fun X=>Bool) true (fun a X q=>f a&&q) l
def zba(es:List Expr):Bool:=ztS (fun e=>!zui e) es
section
variable {T:Tabs} {P:PM T} {W W₁:Wd} {h h₁:Hp} {s s₁:Shared} {A:Around} {E:Value→Shared→Prop} {env:Env} {fr:Fr} {pos pos':Pos} {x:Str} {n:Nat}
theorem Go.on{W₀:Wd}{s₀:Shared}(G:Go P W h s A)(S:Step P.c n W₀ s₀ W₁ h₁ s₁):Go P W₁ h₁ s₁ A:=⟨G.room,S.rel⟩
theorem J.mono{ι α β:Type}{RI:Wd→Nat→ι→Prop}{RR:Wd→Nat→α→β→Prop}{t:ι→Sem β}{K K':α→Hp→Prop}(H:J P RI RR t h K)(i:∀a h,K a h→K' a h):J P RI RR t h K':=fun A E Q s W x G I k=>H A E Q s W x G I fun X X X X X S V q=>k S V (i _ _ q)
theorem zck(h:zjA x=true):(x==("__debug__" :Str))=false∧(x==("__classdict__" :Str))=false:=(aI h).imp (Bool.not_eq_true' _▸·) (Bool.not_eq_true' _▸·)
section
variable {K:AV→Hp→Prop} {l r o i e:Expr} {op:Operator} {k:Nat}
theorem zru(H:K .none h):JE P fr (.Constant .none k pos) h K:=fun A E Q s W env G F kn=>by
 show wpAny _ A (eval (.Constant .none k pos) env) Q E s
 rw [eval_Constant];exact wP (kn.here G.rel (v:= .none) rfl H (tk:=s.toks) (d:=s.drawn))
theorem zry{b:Bool}(H:K (.bool b) h):JE P fr (.Constant (.bool b) k pos) h K:=fun A E Q s W env G F kn=>by
 show wpAny _ A (eval (.Constant (.bool b) k pos) env) Q E s
 rw [eval_Constant];exact wP (kn.here G.rel (v:= .bool b) rfl H (tk:=s.toks) (d:=s.drawn))
theorem ztB{b:Int}(H:K (.int b) h):JE P fr (.Constant (.int b) k pos) h K:=fun A E Q s W env G F kn=>by
 show wpAny _ A (eval (.Constant (.int b) k pos) env) Q E s
 rw [eval_Constant];exact wpAny_mkInt (kn.int G H (d:=s.drawn))
theorem ztA{b:Str}(H:K (.str b.cps.toList) h):JE P fr (.Constant (.str b) k pos) h K:=fun A E Q s W env G F kn=>by
 show wpAny _ A (eval (.Constant (.str b) k pos) env) Q E s
 rw [eval_Constant];exact wpAny_mkText (kn.str G (z:=b.cps.toList) H (d:=s.drawn))
theorem zrv(H:load (T:=T) fr x h K):JE P fr (.Name x pos) h K:=H.go fun hx X=>fun A E Q s W env G F kn=>wpAny_Name (zg7 H A E Q s W env G F kn) (zck hx).1
theorem ztD(H:JE P fr l h fun a h=>JE P fr r h fun b h=>bin op a b h K):JE P fr (.BinOp l op r pos) h K:=fun A E Q s W env G F kn=>
 wpAny_BinOp (H A E _ s W env G F fun X X va X X S₁ V₁ H=>H A E _ _ _ env (G.on S₁) (F.up S₁.le) fun X X vb X X S₂ V₂ H=>zs1 H A E Q _ _ (va,vb) (G.on S₂) ⟨V₁.up S₂.le,V₂⟩ ((kn.after S₁).after S₂))
theorem e_un{op:UnaryOp}(H:JE P fr e h fun a h=>un op a h K):JE P fr (.UnaryOp op e pos) h K:=fun A E Q s W env G F kn=>
 wpAny_UnaryOp (H A E _ s W env G F fun X X va X X S₁ V₁ H=>zsN H A E Q _ _ va (G.on S₁) V₁ (kn.after S₁))
def JT(P:PM T)(fr:Fr)(e:Expr)(h:Hp)(K:Bool→Hp→Prop):Prop:=J P (FI P fr) BB (fun env=>isTrue e env (eval e env)) h K
def JTs(P:PM T)(fr:Fr)(op:BoolOp)(es:List Expr)(h:Hp)(K:Bool→Hp→Prop):Prop:=J P (FI P fr) BB (fun env=>allTrue op es env) h K
def JB'(P:PM T)(fr:Fr)(op:BoolOp)(es:List Expr)(h:Hp)(K:AV→Hp→Prop):Prop:=∀pos,J P (FI P fr) VV (fun env=>boolOp pos op (evalEach es env)) h K
def Vs(W:Wd)(n:Nat)(xs:List AV)(vs:List Value):Prop:=Rs (VR W n) xs vs
def JEs(P:PM T)(fr:Fr)(es:List Expr)(h:Hp)(K:List AV→Hp→Prop):Prop:=J P (FI P fr) Vs (fun env=>spliced (es.map fun e=>(false,eval e env))) h K
def JO(P:PM T)(fr:Fr)(e:Option Expr)(h:Hp)(K:AV→Hp→Prop):Prop:=J P (FI P fr) VV (fun env=>valueOrNone (evalOpt e env)) h K
theorem e_if{t:Expr}(H:JT P fr t h fun c h=>Br c (JE P fr l h K) (JE P fr r h K)):JE P fr (.IfExp t l r pos) h K:=fun A E Q s W env G F kn=>
 wpAny_IfExp (H A E _ s W env G F fun X c b X X S V H=>by
  obtain rfl:b=c:=V
  exact H.go (fun e H'=>by subst e;exact H' A E Q _ _ env (G.on S) (F.up S.le) (kn.after S)) fun e H'=>by subst e;exact H' A E Q _ _ env (G.on S) (F.up S.le) (kn.after S))
theorem few{α:Type}{xs:List AV}{vs:List Value}{R:AV→Value→Prop}(r:Rs R xs vs)(h:Nat.blt xs.length 1000=true):vs.length≤sizeLine:=r.len▸lT (lO (blt h)) (by decide)
theorem zan{pos:Pos}:∀{es:List Expr},zba es=true→backTo pos (starEach es env)=es.map fun e=>(false,eval e env)
 | [],_=>rfl
 | e :: es,h=>by
  have ih:zba es=true→_:=zan (pos:=pos) (es:=es)
  have q:=aI (show (!zui e&&zba es)=true from h)
  induction e using cE <;> first | exact nb q.1 | exact congrArg (_ :: ·) (ih q.2)
theorem zrr{K:List AV→Hp→Prop}(H:K [] h):JEs P fr [] h K:=fun A E Q s W env G F kn=>wP (kn (.refl G.rel) .nil H)
theorem zpp{K:List AV→Hp→Prop}{es:List Expr}(H:JE P fr e h fun v h=>JEs P fr es h fun vs h=>K (v :: vs) h):JEs P fr (e :: es) h K:=fun A E Q s W env G F kn=>
 wB (H A E _ s W env G F fun X X X X X S₁ V₁ H=>wB (wP (wB (wH (H A E _ _ _ env (G.on S₁) (F.up S₁.le) fun X X X X X S₂ V₂ H=>wP (kn (S₁.trans S₂) (.cons (V₁.up S₂.le) V₂) H))))))
def tfs(vs:List AV):Bool:=ztS tf vs
noncomputable def sv?(a:AV):Option SV:=AV.casesOn (motive:=fun X=>Option SV) a (some .none) (fun b=>some (.bool b)) (fun i=>some (.int i)) (fun s=>some (.str s)) (fun X=>none) (fun X=>none) (fun X=>none) (fun X=>none) (fun X=>none) (fun X=>none) none
def svs(l:List AV):Option (List SV):=List.rec (motive:=fun X=>Option (List SV)) (some []) (fun a X q=>(sv? a).bind fun x=>q.map (x :: ·)) l
theorem zqC{a:AV}{x:SV}{v:Value}(e:sv? a=some x)(r:VR W n a v):SR x v:=by
 induction a <;> first | exact no e | (obtain rfl:=sI e;exact r)
theorem zqB{l:List AV}{vs:List Value}(r:Rs (VR W n) l vs):∀{xs:List SV},svs l=some xs→Rs SR xs vs:=by
 induction r with
 | nil=>exact fun e=>sI e▸ .nil
 | cons a X ih=>exact fun e=>(bE e).elim fun x q=>(jE q.2).elim fun y q'=>q'.2▸ .cons (zqC q.1 a) (ih q'.1)
theorem zqw{l:List AV}{vs:List Value}(r:Rs (VR W n) l vs)(e:tfs l=true):Rs (VR W 0) l vs:=by
 induction r with
 | nil=>exact .nil
 | @cons a v l vs p _ ih=>exact (aI (show (tf a&&tfs l)=true from e)).elim fun a b=> .cons (ziK (f:=false) a p) (ih b)
def zuh(vs:List AV)(h:Hp):Tr AV:= .rq (Nat.blt vs.length 1000) (.Br (tfs vs) (nuT false vs h) (nuT true vs h))
def mkL(vs:List AV)(h:Hp)(K:AV→Hp→Prop):Prop:=(zuh vs h).sem K
theorem zrw{es:List Expr}(hs:zba es=true)(H:JEs P fr es h fun vs h=>mkL vs h K):JE P fr (.List es pos) h K:=fun A E Q s W env G F kn=>by
 show wpAny _ A (eval (.List es pos) env) Q E s
 rw [arm_eval_List,zan hs]
 exact wB (wpAny_standAt (wB (H A E _ s W env G F fun W' vs val h' s' S V H=>H.go fun hl H=>wpAny_newList (H.go (fun e H=>(kn.after S).list (G.on S) (f:=false) (zqw V e) H (tk:=s'.toks) (d:=s'.drawn)) fun e H=>(kn.after S).list (G.on S) (f:=true) V H (tk:=s'.toks) (d:=s'.drawn)) (few (α:=AV) V hl))))
theorem zpu{es:List Expr}(hs:zba es=true)(H:JEs P fr es h fun vs h=>req (Nat.blt vs.length 1000) (opt (svs vs) fun xs=>K (.tup xs) h)):JE P fr (.Tuple es k pos) h K:=fun A E Q s W env G F kn=>by
 show wpAny _ A (eval (.Tuple es k pos) env) Q E s
 rw [arm_eval_Tuple,zan hs]
 exact wB (wpAny_standAt (wB (H A E _ s W env G F fun W' vs val h' s' S V H=>H.go fun hl H=>H.go fun xs e H=>wpAny_newTuple ((kn.after S).tup (G.on S) (zqB V e) H (tk:=s'.toks) (d:=s'.drawn)) (few (α:=AV) V hl))))
theorem ztC{op:CmpOp}(hn:behindInMarks op r=false)(H:JE P fr l h fun a h=>JE P fr r h fun b h=>cmp T op a b h K):JE P fr (.Compare l [op] [r] pos) h K:=fun A E Q s W env G F kn=>
 wpAny_Compare1 (H A E _ s W env G F fun X X va X X S₁ V₁ H=>H A E _ _ _ env (G.on S₁) (F.up S₁.le) fun X X vb X X S₂ V₂ H=>znM H A E Q _ _ (va,vb) (G.on S₂) ⟨V₁.up S₂.le,V₂⟩ ((kn.after S₁).after S₂)) hn
theorem zgm{w:Sem Value}{x:Str}:zdH o=false→attributeBase o x env w=w:=by
 induction o using cE with
 | Call f as ks=>
  induction f using cE with
  | Name=>induction as using cL with
   | nil=>induction ks using cL with
    | nil=>exact fun h=>nb h.symm
    | cons=>exact fun (_:false=false)=>(rfl:w=w)
   | cons=>exact fun (_:false=false)=>(rfl:w=w)
  | _=>exact fun (_:false=false)=>(rfl:w=w)
 | _=>exact fun (_:false=false)=>(rfl:w=w)
theorem zdW{x:Str}(h:zdH o=false):attributeBase o x env (eval o env)=eval o env:=zgm h
theorem zrz(hb:zdH o=false)(H:JE P fr o h fun ov h=>zum T ov x.cps.toList h K):JE P fr (.Attribute o x pos) h K:=fun A E Q s W env G F kn=>by
 show wpAny _ A (eval (.Attribute o x pos) env) Q E s
 rw [arm_eval_Attribute,zdW hb]
 exact wB (H A E _ s W env G F fun X X X X X S₁ V₁ H=>wB (wpAny_standAt (wB (wH (zkd H _ A E _ _ _ _ (G.on S₁) V₁ fun X X X X X S V H=>wB (wpAny_letTemporaryGo (wP (kn (S₁.trans S) V H))))))))
theorem znf{slice:Expr}{o i:Value}{Q:Value→Shared→Prop}(h:wpAny (model P.c.prog P.c.w) A (getItem o i) Q E s):wpAny (model P.c.prog P.c.w) A (subscripted slice false o i) Q E s:=by
 have z:=wpAny_operate' (vs:= [o,i]) h
 induction slice using cE with
 | Slice l u k p=>
  induction k using Option.casesOn with
  | none=>exact wpAny_operate' h
  | some=>exact z
 | _=>exact z
theorem zrx(H:JE P fr o h fun a h=>JE P fr i h fun b h=>item a b h K):JE P fr (.Subscript o i pos) h K:=fun A E Q s W env G F kn=>by
 show wpAny _ A (eval (.Subscript o i pos) env) Q E s
 rw [arm_eval_Subscript]
 refine wB (H A E _ s W env G F fun X X va X X S₁ V₁ H=>wB (wH (H A E _ _ _ env (G.on S₁) (F.up S₁.le) fun X X vb X X S₂ V₂ H=>wB (wpAny_standAt (wB ?_)))))
 have z:=zk3 H A E (fun v s'=>wpAny (model P.c.prog P.c.w) A (do letTemporaryGo o va v;pure v) Q E s') _ _ va vb (G.on S₂) (V₁.up S₂.le) V₂ fun X X X X X S V H=>wB (wpAny_letTemporaryGo (wP (kn ((S₁.trans S₂).trans S) V H)))
 exact z.1 _ (wB (znf z.2))
theorem zr2(H:K .none h):JO P fr none h K:=fun A E Q s W env G F kn=>wP (kn (v:= .none) (.refl G.rel) rfl H)
theorem zr1(H:JE P fr e h K):JO P fr (some e) h K:=fun A E Q s W env G F kn=>by
 show wpAny _ A (valueOrNone (evalOpt (some e) env)) Q E s
 rw [arm_evalOpt_some];exact H A E Q s W env G F kn
theorem zpv{lo hi st:Option Expr}(H:JE P fr o h fun ov h=>JO P fr lo h fun l h=>JO P fr hi h fun u h=>JO P fr st h fun k h=>cut ov l u k h K):JE P fr (.Subscript o (.Slice lo hi st pos') pos) h K:=fun A E Q s W env G F kn=>by
 show wpAny _ A (eval (.Subscript o (.Slice lo hi st pos') pos) env) Q E s
 rw [arm_eval_Subscript]
 refine wB (H A E _ s W env G F fun X X va X X S₁ V₁ H=>?_)
 rw [arm_eval_Slice]
 refine wB (wH (wB (H A E _ _ _ env (G.on S₁) (F.up S₁.le) fun X X xl X X S₂ V₂ H=>wB (wH (H A E _ _ _ env (G.on S₂) (F.up (S₁.trans S₂).le) fun X X xu X X S₃ V₃ H=>wB (wH (H A E _ _ _ env (G.on S₃) (F.up ((S₁.trans S₂).trans S₃).le) fun W' X xk h' s₄ S₄ V₄ H=>wpAny_newObj_type ?_)))))))
 have U:=(S₂.trans S₃).trans S₄
 have S':Step P.c h'.nx W' s₄ W' h' {s₄ with heap:=s₄.heap.push {cls:= .type "slice",data:= .fields #[xl,xu,xk]}}:= .keeps S₄.rel (fun b o e=>pS _ e) rfl rfl
 have z:=zrH H A E (fun v s'=>wpAny (model P.c.prog P.c.w) A (do letTemporaryGo o va v;pure v) Q E s') _ _ va xl xu xk _ (G.on S') (V₁.up U.le) (V₂.up (S₃.trans S₄).le) (V₃.up S₄.le) V₄ (Heap.IsSliceOf.new s₄.heap xl xu xk) fun X X X X X S V H=>wB (wpAny_letTemporaryGo (wP (kn (((S₁.trans U).trans S').trans S) V H)))
 exact wB (wpAny_standAt (wB (z.1 _ (wB (znf z.2)))))
end
end
set_option genCtorIdx false in
inductive Fl where
 | next | brk | cont
 | ret (v:AV)
def FF(W:Wd)(n:Nat)(x:Fl)(f:Flow):Prop:=Fl.casesOn (motive:=fun X=>Prop) x (f = .next) (f = .brk) (f = .cont) fun v=>∃u,f = .ret u∧VR W n v u
section
variable {T:Tabs} {P:PM T} {W W₁:Wd} {h h₁:Hp} {s s₁:Shared} {A:Around} {E:Value→Shared→Prop} {env:Env} {fr:Fr} {pos pos':Pos} {x:Str} {n:Nat} {l r o i e t:Expr}
section
variable {K:Bool→Hp→Prop} {op:BoolOp} {es:List Expr}
theorem zsV(H:JT P fr e h fun b h=>K (!b) h):JT P fr (.UnaryOp .Not e pos) h K:=fun A E Q s W env G F kn=>
 wpAny_isTrue_Not (H A E _ s W env G F fun X X X X X S V H=>kn S (congrArg _ V) H)
theorem t_if(H:JT P fr t h fun c h=>Br c (JT P fr l h K) (JT P fr r h K)):JT P fr (.IfExp t l r pos) h K:=fun A E Q s W env G F kn=>by
 show wpAny _ A (isTrue (.IfExp t l r pos) env (eval (.IfExp t l r pos) env)) Q E s
 rw [arm_isTrue_IfExp]
 exact wB (H A E _ s W env G F fun X c b X X S V H=>by
  obtain rfl:b=c:=V
  exact H.go (fun e H'=>by subst e;exact H' A E Q _ _ env (G.on S) (F.up S.le) (kn.after S)) fun e H'=>by subst e;exact H' A E Q _ _ env (G.on S) (F.up S.le) (kn.after S))
theorem t_op(H:JTs P fr op es h K):JT P fr (.BoolOp op es pos) h K:=fun A E Q s W env G F kn=>wpAny_isTrue_BoolOp (H A E Q s W env G F kn)
noncomputable def zrj(op:BoolOp):Bool:=BoolOp.casesOn (motive:=fun X=>Bool) op true false
theorem zsW(H:K (zrj op) h):JTs P fr op [] h K:=fun A E Q s W env G F kn=>by
 show wpAny _ A (allTrue op [] env) Q E s
 rw [arm_allTrue_nil];induction op <;> exact wP (kn (v:=_) (.refl G.rel) rfl H)
def ztR(op:BoolOp)(b:Bool)(p:Prop)(k:Bool→Prop):Prop:=BoolOp.casesOn (motive:=fun X=>Prop) op (Br b p (k false)) (Br b (k true) p)
theorem zqA(H:JT P fr e h fun b h=>ztR op b (JTs P fr op es h K) fun b=>K b h):JTs P fr op (e :: es) h K:=fun A E Q s W env G F kn=>by
 show wpAny _ A (allTrue op (e :: es) env) Q E s
 rw [arm_allTrue_cons]
 refine wB (H A E _ s W env G F fun X c b X X S V H=>?_)
 obtain rfl:b=c:=V
 induction op with
 | And=>exact Br.go H (fun e H'=>by subst e;exact H' A E Q _ _ env (G.on S) (F.up S.le) (kn.after S)) fun e H'=>by subst e;exact wP (kn (v:=false) S rfl H')
 | Or=>exact Br.go H (fun e H'=>by subst e;exact wP (kn (v:=true) S rfl H')) fun e H'=>by subst e;exact H' A E Q _ _ env (G.on S) (F.up S.le) (kn.after S)
theorem zsX{op:CmpOp}(hn:behindInMarks op r=false)(H:JE P fr l h fun a h=>JE P fr r h fun b h=>cmp T op a b h fun c h=>zqs c h K):JT P fr (.Compare l [op] [r] pos) h K:=fun A E Q s W env G F kn=>
 wpAny_isTrue_Compare1 (H A E _ s W env G F fun X X va X X S₁ V₁ H=>H A E _ _ _ env (G.on S₁) (F.up S₁.le) fun X X vb X X S₂ V₂ H=>znM H A E _ _ _ (va,vb) (G.on S₂) ⟨V₁.up S₂.le,V₂⟩ fun X X vc X X S₃ V₃ H=>zcw H A E Q _ _ vc (G.on S₃) V₃ (((kn.after S₁).after S₂).after S₃)) hn
theorem zhM(he:∀env whole,isTrue e env whole=(do let v←whole;standAt e.pos;holding [v] (truthy v)))(H:JE P fr e h fun v h=>zqs v h K):JT P fr e h K:=fun A E Q s W env G F kn=>
 wpAny_isTrue_value (H A E _ s W env G F fun X X va X X S₁ V₁ H=>zcw H A E Q _ _ va (G.on S₁) V₁ (kn.after S₁)) (he _ _)
end
section
variable {K:AV→Hp→Prop}
theorem ztN{op:BoolOp}(H:JE P fr e h K):JB' P fr op [e] h K:=fun pos A E Q s W env G F kn=>H A E Q s W env G F kn
theorem ztO{es:List Expr}(H:JE P fr e h fun v h=>J P (V1 v) BB (fun v=>truthy v) h fun t h=>Br t (JB' P fr .And (l :: es) h K) (K v h)):JB' P fr .And (e :: l :: es) h K:=fun pos A E Q s W env G F kn=>by
 show wpAny _ A (boolOp pos .And (eval e env :: eval l env :: evalEach es env)) Q E s
 refine wB (m:=eval e env) (H A E _ s W env G F fun X X va X X S₁ V₁ H=>wB (wpAny_standAt (wB (wH (H A E _ _ _ va (G.on S₁) V₁ fun X c b X X S₂ V H=>?_)))))
 obtain rfl:b=c:=V
 exact H.go (fun e H'=>by subst e;exact H' pos A E Q _ _ env (G.on S₂) (F.up (S₁.trans S₂).le) ((kn.after S₁).after S₂)) fun e H'=>by subst e;exact wP (kn (S₁.trans S₂) (V₁.up S₂.le) H')
theorem e_op{op:BoolOp}{es:List Expr}(H:JB' P fr op es h K):JE P fr (.BoolOp op es pos) h K:=fun A E Q s W env G F kn=>by
 show wpAny _ A (eval (.BoolOp op es pos) env) Q E s
 rw [arm_eval_BoolOp];exact H pos A E Q s W env G F kn
end
def JS(P:PM T)(fr:Fr)(st:Stmt)(h:Hp)(K:Fl→Hp→Prop):Prop:=J P (FI P fr) FF (fun env=>exec st env) h K
def JSs(P:PM T)(fr:Fr)(st:List Stmt)(h:Hp)(K:Fl→Hp→Prop):Prop:=J P (FI P fr) FF (fun env=>execs st env) h K
def JA'(P:PM T)(fr:Fr)(t:Expr)(v:AV)(h:Hp)(K:Unit→Hp→Prop):Prop:=J P (FV P fr v) UU (fun p=>assign t p.1 p.2) h K
section
variable {K:Fl→Hp→Prop} {st:Stmt} {b d:List Stmt}
theorem zsH(H:K .next h):JSs P fr [] h K:=fun A E Q s W env G F kn=>wpAny_execs_nil (kn (v:= .next) (.refl G.rel) rfl H)
def zsU(P:PM T)(fr:Fr)(r:List Stmt)(K:Fl→Hp→Prop)(x:Fl)(h:Hp):Prop:=Fl.casesOn (motive:=fun X=>Prop) x (JSs P fr r h K) (K .brk h) (K .cont h) fun v=>K (.ret v) h
theorem zql(H:JS P fr st h (zsU P fr b K)):JSs P fr (st :: b) h K:=fun A E Q s W env G F kn=>by
 show wpAny _ A (execs (st :: b) env) Q E s
 rw [arm_execs_cons]
 refine wB (H A E _ s W env G F fun X x f X X S V H=>?_)
 induction x with
 | next=>obtain rfl:f = .next:=V;exact H A E Q _ _ env (G.on S) (F.up S.le) (kn.after S)
 | brk=>obtain rfl:f = .brk:=V;exact wP (kn (v:= .brk) S rfl H)
 | cont=>obtain rfl:f = .cont:=V;exact wP (kn (v:= .cont) S rfl H)
 | ret v=>exact V.elim fun u e=>e.1▸wP (kn (v:= .ret v) S ⟨u,rfl,e.2⟩ H)
theorem ze1{t:Option Expr}{l:Nat}(h:zbd e=false):swapsWith e t l env=pure false:=by
 revert h
 induction e using cE <;> first | exact fun (_:false=false)=>(rfl:(pure false:Sem Bool)=pure false) | exact fun h=>nb h.symm
theorem zmB{v:Value}{Q:Flow→Shared→Prop}(q:Q .next s):wpAny (model P.c.prog P.c.w) A (dropValue (.List [] pos) pos v) Q E s:=by
 induction v with
 | ref=>exact wB (wpAny_standAt (wB (wpAny_runValue (codeAny_builtin PySem.entry_let_go (show wpAny _ _ (ret .none) _ _ s from wP (wP q))))))
 | _=>exact wP (a:=Flow.next) q
set_option smartUnfolding false in
theorem zpz{v:Value}{Q:Flow→Shared→Prop}(q:Q .next s):wpAny (model P.c.prog P.c.w) A (dropValue e pos v) Q E s:=by
 have z:=zmB (P:=P) (A:=A) (E:=E) (v:=v) (pos:=pos) q
 induction e using cE with
 | Name=>exact wP (a:=Flow.next) q
 | _=>exact z
theorem zqj(hc:zbd e=false)(H:JE P fr e h fun X h=>K .next h):JS P fr (.Expr e pos) h K:=fun A E Q s W env G F kn=>by
 show wpAny _ A (exec (.Expr e pos) env) Q E s
 rw [exec_Expr env e pos (by unfold interactive;rw [F.kind];rfl) (ze1 hc)]
 exact wB (wpAny_standAt (wB (H A E _ s W env G F fun X X X X X S X H=>zpz (kn (v:= .next) S rfl H))))
theorem zqi(H:K .next h):JS P fr (.Pass pos) h K:=fun A E Q s W env G F kn=>wpAny_Pass (kn (v:= .next) (.refl G.rel) rfl H)
theorem zsK(H:K .brk h):JS P fr (.Break pos) h K:=fun A E Q s W env G F kn=>wpAny_Break (kn (v:= .brk) (.refl G.rel) rfl H)
theorem zqk(H:K .cont h):JS P fr (.Continue pos) h K:=fun A E Q s W env G F kn=>wpAny_Continue (kn (v:= .cont) (.refl G.rel) rfl H)
theorem zsG(H:JE P fr e h fun v h=>K (.ret v) h):JS P fr (.Return (some e) pos) h K:=fun A E Q s W env G F kn=>
 wpAny_Return_some (H A E _ s W env G F fun X v u X X S V H=>kn (v:= .ret v) S ⟨u,rfl,V⟩ H)
theorem zqh(H:K (.ret .none) h):JS P fr (.Return none pos) h K:=fun A E Q s W env G F kn=>wpAny_Return_none (kn (v:= .ret .none) (.refl G.rel) ⟨.none,rfl,rfl⟩ H)
theorem x_if(H:JT P fr t h fun c h=>Br c (JSs P fr b h K) (JSs P fr d h K)):JS P fr (.If t b d pos) h K:=fun A E Q s W env G F kn=>
 wpAny_If (H A E _ s W env G F fun X c b X X S V H=>by
  obtain rfl:b=c:=V
  exact H.go (fun e H'=>by subst e;exact H' A E Q _ _ env (G.on S) (F.up S.le) (kn.after S)) fun e H'=>by subst e;exact H' A E Q _ _ env (G.on S) (F.up S.le) (kn.after S))
theorem zlk{m:Option Expr}(H:JT P fr t h fun c h=>Rq c (K .next h)):JS P fr (.Assert t m pos) h K:=fun A E Q s W env G F kn=>
 wpAny_Assert_holds (H A E _ s W env G F fun X c b X X S V H=>H.go fun e H=>⟨V.trans e,kn (v:= .next) S rfl H⟩)
theorem zl4{v:AV}{K:Unit→Hp→Prop}(H:zhS fr x v h K):JA' P fr (.Name x pos) v h K:=fun A E Q s W p G I kn=>wpAny_assign_Name (zcx H A E Q s W p G I kn)
theorem zs7{v:AV}{K:Unit→Hp→Prop}(H:JE P fr o h fun ov h=>zt7 T ov x.cps.toList v h K):JA' P fr (.Attribute o x pos) v h K:=fun A E Q s W p G I kn=>by
 show wpAny _ A (assign (.Attribute o x pos) p.1 p.2) Q E s
 rw [arm_assign_Attribute]
 exact wB (wH (H A E _ s W p.1 G I.1 fun X X ov X X S₁ V₁ H=>wB (wpAny_standAt (wB (wH (zjn H A E _ _ _ (ov,p.2) (G.on S₁) ⟨V₁,I.2.up S₁.le⟩ fun X X X X X S V H=>wpAny_release' (kn (v:=()) (S₁.trans S) V H)))))))
theorem zs6{v:AV}{K:Unit→Hp→Prop}(H:JE P fr o h fun ov h=>JE P fr i h fun iv h=>zfY ov iv v h K):JA' P fr (.Subscript o i pos) v h K:=fun A E Q s W p G I kn=>by
 show wpAny _ A (assign (.Subscript o i pos) p.1 p.2) Q E s
 rw [arm_assign_Subscript]
 exact wB (wH (H A E _ s W p.1 G I.1 fun X X ov X X S₁ V₁ H=>wB (wH (H A E _ _ _ p.1 (G.on S₁) (I.1.up S₁.le) fun X X iv X X S₂ V₂ H=>wB (wpAny_standAt (wB (wH (zdy H A E _ _ _ (ov,iv,p.2) (G.on S₂) ⟨V₁.up S₂.le,V₂,I.2.up (S₁.trans S₂).le⟩ fun X X X X X S V H=>wpAny_release' (kn (v:=()) ((S₁.trans S₂).trans S) V H)))))))))
theorem zqm{op:Operator}(H:J P (FI P fr) VV (fun env=>loadName env x) h fun a h=>JE P fr e h fun b h=>aug op a b h fun c h=>zhS fr x c h fun X h=>K .next h):JS P fr (.AugAssign (.Name x pos') op e pos) h K:=fun A E Q s W env G F kn=>
 wpAny_AugAssign_Name (H A E _ s W env G F fun X X va X X S₁ V₁ H=>H A E _ _ _ env (G.on S₁) (F.up S₁.le) fun X X vb X X S₂ V₂ H=>zkU H A E _ _ _ (va,vb) (G.on S₂) ⟨V₁.up S₂.le,V₂⟩ fun X X vc X X S₃ V₃ H=>zcx H A E _ _ _ (env,vc) (G.on S₃) ⟨F.up ((S₁.trans S₂).trans S₃).le,V₃⟩ fun X X X X X S V H=>kn (v:= .next) (((S₁.trans S₂).trans S₃).trans S) rfl H)
theorem zqo{op:Operator}(H:JE P fr o h fun ov h=>JA P ov x.cps.toList h fun a h=>JE P fr e h fun b h=>aug op a b h fun c h=>zt7 T ov x.cps.toList c h fun X h=>K .next h):JS P fr (.AugAssign (.Attribute o x pos') op e pos) h K:=fun A E Q s W env G F kn=>
 wpAny_AugAssign_AttributeAny (H A E _ s W env G F fun X X vo X X S₀ V₀ H=>H _ A E _ _ _ vo (G.on S₀) V₀ fun X X va X X S₁ V₁ H=>H A E _ _ _ env (G.on S₁) (F.up (S₀.trans S₁).le) fun X X vb X X S₂ V₂ H=>zkU H A E _ _ _ (va,vb) (G.on S₂) ⟨V₁.up S₂.le,V₂⟩ fun X X vc X X S₃ V₃ H=>zjn H A E _ _ _ (vo,vc) (G.on S₃) ⟨V₀.up ((S₁.trans S₂).trans S₃).le,V₃⟩ fun X X X X X S V H=>kn (v:= .next) (S₀.trans (((S₁.trans S₂).trans S₃).trans S)) rfl H)
theorem zqn{op:Operator}(hi:zuj i=false)(H:JE P fr o h fun ov h=>JE P fr i h fun iv h=>JI P ov iv h fun a h=>JE P fr e h fun b h=>aug op a b h fun c h=>zfY ov iv c h fun X h=>K .next h):JS P fr (.AugAssign (.Subscript o i pos') op e pos) h K:=fun A E Q s W env G F kn=>
 wpAny_AugAssign_SubscriptAny (H A E _ s W env G F fun X X vo X X S₀ V₀ H=>H A E _ _ _ env (G.on S₀) (F.up S₀.le) fun X X vi X X S' V' H=>(H A E _ _ _ vo vi (G.on S') (V₀.up S'.le) V' fun X X va X X S₁ V₁ H=>H A E _ _ _ env (G.on S₁) (F.up ((S₀.trans S').trans S₁).le) fun X X vb X X S₂ V₂ H=>zkU H A E _ _ _ (va,vb) (G.on S₂) ⟨V₁.up S₂.le,V₂⟩ fun X X vc X X S₃ V₃ H=>zdy H A E _ _ _ (vo,vi,vc) (G.on S₃) ⟨V₀.up (S'.trans ((S₁.trans S₂).trans S₃)).le,V'.up ((S₁.trans S₂).trans S₃).le,V₃⟩ fun X X X X X S V H=>kn (v:= .next) ((S₀.trans S').trans (((S₁.trans S₂).trans S₃).trans S)) rfl H).2)
  (fun ov iv new=>by induction i using cE <;> first | rfl | exact nb hi.symm)
end
end
theorem zod{α:Type}{f:Nat→α}{n:Nat}{a b:α}:upd (upd f n a) n b=upd f n b:=funext fun k=>by
 unfold upd
 induction Nat.beq k n <;> rfl
theorem Hp.set_set{h:Hp}{n:Nat}{a b:AO}:(h.set n a).set n b=h.set n b:=congrArg (Hp.mk _) zod
section
variable {T:Tabs} {P:PM T} {W W₁:Wd} {h h₁:Hp} {s s₁:Shared} {A:Around} {E:Value→Shared→Prop} {env:Env} {fr:Fr} {pos pos' p q:Pos} {x y:Str} {n:Nat} {l r o i e t:Expr}
theorem Step.frm{c:Cx}(R:Rel c W h s){L:Nat}(hL:L<h.nx){l l':List (Str×AV)}(e:(h.at_ L).frame? = some l')(i:∀z w,l.lookup z=some w→l'.lookup z=some w):Step c h.nx W s W (h.set L (.frame l)) s:=
 .set R (k:=L) (.frame l) hL (AO.frame?_is e▸rfl) (fun X=>(R.obj hL (AO.frame?_is e) rfl).elim fun ob o=>⟨ob,o.1,o.2.imp fun X=> .imp fun X=> .imp_right (.imp_right fun z x v q=>z x v (i x v q))⟩) (fun X X e X=>e) rfl rfl (rL _)
def zcJ(fr:Fr)(x y:Str)(v:AV)(h:Hp):Tr Unit:= .os v.tup? fun xs=> .os (a2 (xs.map SV.av)) fun u=> .os (fr.sc.names.lookup x) fun k=> .os (fr.sc.names.lookup y) fun m=>byKind (α:=Tr Unit) k (byKind (α:=Tr Unit) m
 (.rq (!(x==y)) (.os (h.at_ fr.L).frame? fun l=> .ret () (h.set fr.L (.frame ((y,u.2) :: (x,u.1) :: l))))) .no .no .no) .no .no .no
def ziT(fr:Fr)(x y:Str)(v:AV)(h:Hp)(K:Unit→Hp→Prop):Prop:=(zcJ fr x y v h).sem K
theorem sr2{xs:List SV}{vs:List Value}(r:Rs SR xs vs){u:AV×AV}(e:a2 (xs.map SV.av)=some u):∃v w,vs = [v,w]∧∀(W:Wd) n,VR W n u.1 v∧VR W n u.2 w:=by
 induction r using Rs.casesOn with
 | nil=>exact no e
 | cons a r=>induction r using Rs.casesOn with
  | nil=>exact no e
  | cons b r=>induction r using Rs.casesOn with
   | nil=>obtain rfl:=sI e;exact ⟨_,_,rfl,fun X X=>⟨a.vr,b.vr⟩⟩
   | cons X Z=>exact no e
theorem zh4{k:NameKind}{K:Unit→Hp→Prop}{a:Tr Unit}{o:Option NameKind}(e:o=some k)(h:(byKind (α:=Tr Unit) k a .no .no .no).sem K):o=some .local∧a.sem K:=by
 induction k with
 | «local» =>exact ⟨e,h⟩
 | _=>exact False.elim h
theorem zeO{v:AV}{K:Unit→Hp→Prop}(H:ziT fr x y v h K)(G:Go P W h s A)(F:FrAt P.c W h.nx env fr){val:Value}(V:VR W h.nx v val){Q:Unit→Shared→Prop}(kn:Kn P UU K W h.nx s Q):
  ∃a vs m,val = .ref a∧s.heap.get? a=some (zbY "tuple" vs m)∧∃u w,vs = #[u,w]∧∀s₁,Step P.c h.nx W s W h s₁→
   wpAny (model P.c.prog P.c.w) A (storeName env x u) (fun X s=>wpAny (model P.c.prog P.c.w) A (storeName env y w) Q E s) E s₁∧
   wpAny (model P.c.prog P.c.w) A (storeName env y w) (fun X s=>wpAny (model P.c.prog P.c.w) A (storeName env x u) Q E s) E s₁:=H.go fun xs e1 H=>H.go fun u e2 H=>H.go fun k e3 H=>H.go fun m e4 H=>by
 obtain ⟨e3,H⟩:=zh4 e3 H
 obtain ⟨e4,H⟩:=zh4 e4 H
 refine H.go fun ne H=>H.go fun l e5 H=>?_
 obtain ⟨a,vs,m,rfl,h1,h2⟩:=(AV.tup?_is e1▸V:VR W h.nx (.tup xs) val)
 obtain ⟨va,vb,hv,hu⟩:=sr2 h2 e2
 obtain ⟨vs⟩:=vs
 obtain rfl:vs = [va,vb]:=hv
 have ne:∀{z:Str},(z==x)=true→(z==y)=false:=fun a=>by
  have ne:(x==y)=false:=Bool.not_eq_true' _▸ne
  rw [eq_of_beq a];exact ne
 refine ⟨a,_,m,rfl,(G.rel.fz _ _ h1).2.1,va,vb,rfl,fun s₁ S=>⟨?_,?_⟩⟩
 ·refine zaH (fr:=fr) (v:=u.1) (K:=fun X h'=>h'=h.set fr.L (.frame ((x,u.1) :: l))) e3 (zbM e5 rfl) A E _ s₁ W (env,va) (G.on S) ⟨F,(hu _ _).1⟩ fun W₁ X X h₁ s₂ S₁ X eh=>?_
  subst eh
  exact zaH (fr:=fr) (v:=u.2) (K:=K) e4 (zbM (a:=(x,u.1) :: l) (congrArg AO.frame? upd_self) (by rw [Hp.set_set];exact H)) A E Q s₂ W₁ (env,vb) (G.on S₁) ⟨F.up S₁.le,(hu _ _).2⟩ (kn.after (S.trans S₁))
 ·refine zaH (fr:=fr) (v:=u.2) (K:=fun X h'=>h'=h.set fr.L (.frame ((y,u.2) :: l))) e4 (zbM e5 rfl) A E _ s₁ W (env,vb) (G.on S) ⟨F,(hu _ _).2⟩ fun W₁ X X h₁ s₂ S₁ X eh=>?_
  subst eh
  refine zaH (fr:=fr) (v:=u.1) (K:=fun X h'=>h'=h.set fr.L (.frame ((x,u.1) :: (y,u.2) :: l))) e3 (zbM (a:=(y,u.2) :: l) (congrArg AO.frame? upd_self) Hp.set_set) A E _ s₂ W₁ (env,va) (G.on S₁) ⟨F.up S₁.le,(hu _ _).1⟩ fun W₂ X X h₂ s₃ S₂ X eh=>?_
  subst eh
  refine kn (v:=()) ((S.trans (S₁.trans S₂)).trans (.frm S₂.rel (L:=fr.L) (l:=(y,u.2) :: (x,u.1) :: l) (lL (F.up S.le).loc.1 (S₁.trans S₂).le.le) (congrArg AO.frame? upd_self) fun z w q=>?_)) trivial (by rw [Hp.set_set];exact H)
  induction q':z==x with
  | false=>
   induction q'':z==y with
   | true=>simpa only [List.lookup_cons,q',q''] using q
   | false=>simpa only [List.lookup_cons,q',q''] using q
  | true=>simpa only [List.lookup_cons,q',ne q'] using q
theorem zkV{k:Nat}{v:AV}{K:Unit→Hp→Prop}(H:ziT fr x y v h K):JA' P fr (.Tuple [.Name x p, .Name y q] k pos) v h K:=fun A E Q s W z G I kn=>by
 obtain ⟨a,vs,m,e1,e2,u,w,rfl,e4⟩:=zeO (E:=E) H G I.1 I.2 kn
 show wpAny _ A (assign (.Tuple [.Name x p, .Name y q] k pos) z.1 z.2) Q E s
 rw [e1,arm_assign_Tuple]
 refine wB (wpAny_standAt ?_)
 unfold unpack
 refine wB (wH (wpAny_sz (wpAny_unpackItems_tuple (items:= #[u,w]) G.room.hand ⟨_,e2,rfl,m,rfl⟩ fun h' ext hz=>?_)))
 have S:Step P.c h.nx W s W h {s with heap:=h'}:= .keeps G.rel (fun b o e=>ext b o (Nat.ne_of_lt (Heap.lt_size e)) e) rfl rfl hz
 show wpAny _ A (assignInOrder [assign (.Name x p) z.1,assign (.Name y q) z.1] [u,w]) Q E _
 unfold assignInOrder
 refine wB (wH (wpAny_assign_Name (wpAny_mono (e4 _ S).1 (fun X s' h'=>?_) fun X X q=>q)))
 unfold assignInOrder
 refine wB (wH (wpAny_assign_Name (wpAny_mono h' (fun X s' h'=>?_) fun X X q=>q)))
 unfold assignInOrder
 exact wP h'
section
variable {K:Fl→Hp→Prop}
theorem zlj(hc:zbd e=false)(h1:∀env,swappedStores [t] e env=pure none)(h2:∀env,(assignEach [t] env).map (·.2) = [assign t env])(H:JE P fr e h fun v h=>JA' P fr t v h fun X h=>K .next h):JS P fr (.Assign [t] e pos) h K:=fun A E Q s W env G F kn=>by
 show wpAny _ A (exec (.Assign [t] e pos) env) Q E s
 rw [exec_Assign_arm]
 refine wB (wpAny_standAt ?_)
 rw [show swapsWithSole [t] e pos.line env=Pure.pure false from ze1 hc]
 refine wB (wP ?_)
 refine Mine.wIfN (by decide) ?_
 refine wB (H A E _ s W env G F fun W₁ v va h₁ s₁ S₁ V₁ H=>?_)
 rw [h1]
 refine wB (wP ?_)
 show wpAny _ A (do assignAll va ((assignEach [t] env).map (·.2));Pure.pure Flow.next) _ E s₁
 rw [h2]
 exact wB (H A E _ _ _ (env,va) (G.on S₁) ⟨F.up S₁.le,V₁⟩ fun X X X X X S V H=>wP (kn (v:= .next) (S₁.trans S) rfl H))
noncomputable def zsn(e:Expr):Bool:=Expr.casesOn (motive_1:=fun X=>Bool) e (fun X X X=>true) (fun X X X=>true) (fun X X X X=>true) (fun X X X=>true) (fun X X X X=>true) (fun X X X X=>true) (fun X X X=>true) (fun X X X=>true) (fun X X X X=>true) (fun X X X X=>true) (fun X X X X X=>true) (fun X X X X=>true) (fun X X=>true) (fun X X=>true) (fun X X=>true) (fun X X X X=>true) (fun X X X X=>true) (fun X X X X=>true) (fun X X=>true) (fun X X X=>true) (fun X X X=>true) (fun X X X=>true) (fun X X=>true) (fun X X=>true) (fun X X=>true) (fun vs X X=>!(vs.all (constantsAlone 8)) || vs.all (foldedForSure 8)) (fun X X X X=>true)
def swR(x y:Str)(t:Sem (Option (List Str))):Prop:=t=pure none∨t=pure (some [x,y])
theorem swN:swR x y (pure none):= .inl rfl
theorem swI{c:Prop}[Decidable c]{t:Sem (Option (List Str))}(h:¬c→swR x y t):swR x y (if c then pure none else t):=by
 by_cases q:c
 ·exact .inl (if_pos q)
 ·rw [if_neg q];exact h q
theorem swE{c:Prop}[Decidable c]{t u:Sem (Option (List Str))}(q:¬c)(h:swR x y t):swR x y (if c then u else t):=by
 rw [if_neg q];exact h
theorem swF{f:Expr→Option Str}{a b:Expr}{d:Bool}(ha:f a=some x)(hb:f b=some y∨f b=none)(q:¬((([a,b].filterMap f).length != 2 || d)=true)):swR x y (pure (some ([a,b].filterMap f))):=by
 rcases hb with hb | hb
 ·exact .inr (by rw [List.filterMap_cons_some ha,List.filterMap_cons_some hb];rfl)
 ·rw [List.filterMap_cons_some ha,List.filterMap_cons_none hb] at q
  exact absurd rfl q
theorem sw2{k:Nat}(h:zsn e=true)(h1:env.kindOf x=some .local)(h2:env.kindOf y=some .local):swR x y (swappedStores [.Tuple [.Name x p, .Name y q] k pos] e env):=by
 revert h
 induction e using cE with
 | Tuple vs=>
  intro h
  refine swI fun X=>swI fun X=>swI fun q0=>swI fun q1=>swE (fun c=>q1 ((Bool.or_eq_true_iff.mp h).resolve_left fun d=>Bool.noConfusion ((congrArg (!·) c).symm.trans d))) (swF (if_pos (Bool.and_eq_true_iff.mpr ⟨(congrArg (· == some NameKind.local) h1).trans rfl,beq_self_eq_true _⟩)) ?_ q0)
  by_cases e:(env.kindOf y==some .local&&q.line==p.line)=true
  ·exact .inl (if_pos e)
  ·exact .inr (if_neg e)
 | _=>exact fun (_:true=true)=>swN
theorem ziE{k:Nat}(hc:(!zbd e&&zsn e)=true)(H:JE P fr e h fun v h=>ziT fr x y v h fun X h=>K .next h):JS P fr (.Assign [.Tuple [.Name x p, .Name y q] k pos'] e pos) h K:=fun A E Q s W env G F kn=>by
 have hc:=aI hc
 have h0:zbd e=false:=(Bool.not_eq_true' _).mp hc.1
 show wpAny _ A (exec (.Assign [.Tuple [.Name x p, .Name y q] k pos'] e pos) env) Q E s
 rw [exec_Assign_arm]
 refine wB (wpAny_standAt ?_)
 rw [show swapsWithSole [.Tuple [.Name x p, .Name y q] k pos'] e pos.line env=Pure.pure false from ze1 (t:=some (.Tuple [.Name x p, .Name y q] k pos')) (l:=pos.line) (env:=env) h0]
 refine wB (wP ?_)
 refine Mine.wIfN (by decide) ?_
 refine wB (H A E _ s W env G F fun W₁ v va h₁ s₁ S₁ V₁ H=>?_)
 have F₁:=F.up S₁.le
 have kn':Kn P UU (fun X h=>K .next h) W₁ h₁.nx s₁ (fun X s=>Q .next s):=fun X X X X X S X H=>kn (v:= .next) (S₁.trans S) rfl H
 have lc:env.kindOf x=some .local∧env.kindOf y=some .local:=H.go fun xs e1 H=>H.go fun u e2 H=>H.go fun k e3 H=>H.go fun m e4 H=>(zh4 e3 H).elim fun e3 H=>(zh4 e4 H).elim fun e4 X=>⟨(F.kinds x _ e3).elim id (fun q=>(nomatch q.1)),(F.kinds y _ e4).elim id (fun q=>(nomatch q.1))⟩
 rcases sw2 (p:=p) (q:=q) (pos:=pos') (k:=k) hc.2 lc.1 lc.2 with z | z
 ·rw [z]
  refine wB (wP ?_)
  show wpAny _ A (do assignAll va [assign (.Tuple [.Name x p, .Name y q] k pos') env];Pure.pure Flow.next) _ E s₁
  exact wB (zkV H A E _ _ _ (env,va) (G.on S₁) ⟨F₁,V₁⟩ fun X X X X X S V H=>wP (kn' (v:=()) S V H))
 ·rw [z]
  refine wB (wP ?_)
  obtain ⟨a,vs,m,rfl,e2,u,w,rfl,e4⟩:=zeO (E:=E) H (G.on S₁) F₁ V₁ kn'
  unfold assignStores
  refine wB (wpAny_rule (wB (wpAny_sz (wpAny_unpackItems_tuple (items:= #[u,w]) G.room.hand ⟨_,e2,rfl,m,rfl⟩ fun h' ext hz=>?_))))
  have S:Step P.c h₁.nx W₁ s₁ W₁ h₁ {s₁ with heap:=h'}:= .keeps S₁.rel (fun b o e=>ext b o (Nat.ne_of_lt (Heap.lt_size e)) e) rfl rfl hz
  show wpAny _ A (assignInOrder [bindName env y,bindName env x] [w,u]>>=fun X=>Pure.pure Flow.next) _ E _
  unfold assignInOrder
  refine wB (wB (wH (wpAny_bindName (wpAny_mono (e4 _ S).2 (fun X s' h'=>?_) fun X X q=>q))))
  unfold assignInOrder
  refine wB (wH (wpAny_bindName (wpAny_mono h' (fun X s' h'=>?_) fun X X q=>q)))
  unfold assignInOrder
  exact wP (wP h')
end
end
def zhQ{β:Type}(as:List AV)(k:List Nat→Tr β):Tr β:= .os (a1 as) fun a=> .os a.str? k
def zqE{β:Type}(as:List AV)(k:List Nat→List Nat→Tr β):Tr β:= .os (a2 as) fun p=> .os p.1.str? fun x=> .os p.2.str? fun y=>k x y
def znv{β:Type}(h:Hp)(as:List AV)(k:Nat→Bool×List AV→AV→Tr β):Tr β:= .os (a2 as) fun p=> .os p.1.ref? fun r=> .os (h.at_ r).list? fun q=>k r q p.2
def znq(z:List Nat)(h:Hp):Tr AV:= .Rq (Nat.ble z.length sizeL) (.ret (.str z) h)
noncomputable def zms(xs:List AV):Option (AV×List AV):=List.casesOn (motive:=fun X=>Option (AV×List AV)) xs none fun x r=>some (x,r)
noncomputable def lone(xs:List SV):Option SV:=List.casesOn (motive:=fun X=>Option SV) xs none fun x r=>List.casesOn (motive:=fun X=>Option SV) r (some x) fun X X=>none
def znS(T:Tabs)(b:BM)(as:List AV)(h:Hp):Tr AV:=BM.casesOn (motive:=fun X=>Tr AV) b
 (.os (a2 as) fun p=> .os p.1.str? fun z=> .os (zaY h p.2) fun q=> .mp U.ls? .str q.2 fun ss=> .Rq (Nat.ble ((ss.map List.length).sum+ss.length*z.length) sizeL) (.ret (.str (zaB z ss)) h))
 (zhQ as fun z=>znq (za8 z) h) (zhQ as fun z=>znq (zag z) h)
 (.os (a3 as) fun p=> .os p.1.str? fun z=> .os p.2.1.str? fun x=> .os p.2.2.str? fun y=> .Rq (Builtin.Str.occurrences (strOf z) (strOf x) 0 z.length (z.length+1)).isEmpty (.ret (.str z) h))
 (zhQ as fun z=> .Rq (Nat.ble z.length sizeL) (.ret (.str (zaS z)) h)) (zqE as fun z x=> .ret (.int (zdc z x)) h)
 (znv h as fun r q v=> .Rq (Nat.ble q.2.length.succ sizeL&&(q.1 || tf v)) (.ret .none (h.set r (.list q.1 (q.2 ++ [v])))))
 (znv h as fun r q v=> .Op U.ht? (zms q.2) fun p=> .os v.int? fun i=> .Rq (i==0&&Nat.ble p.2.length.succ sizeL) (.ret p.1 (h.set r (.list q.1 p.2))))
 (.os (a2 as) fun p=> .os (zaY h p.1) fun q=> .mp U.li? .int q.2 fun is=> .os p.2.int? fun i=> .ret (.int (is.count i)) h)
 (.os (a1 as) fun a=> .os a.ref? fun r=> .os (h.at_ r).list? fun q=> .Rq (Nat.ble q.2.length sizeL) (.ret .none (h.set r (.list q.1 q.2.reverse))))
 (.os (a1 as) fun a=> .os a.ref? fun r=> .os (h.at_ r).dict? fun q=> .rq q.2.isEmpty (.ret (.ref h.nx) (h.new (.items r))))
 (.os (a1 as) fun a=> .os a.int? fun i=> .ret (.int (zas i)) h)
 (.os (a2 as) fun p=> .os p.1.glob? fun l=> .os (T.intTab l) fun t=> .os p.2.int? fun i=> .Al U.en? (t.find? fun e=>e.1==i) (fun e=> .ret (.str e.2) h) (.ret .none h))
 (.os (a2 as) fun p=> .os p.1.glob? fun l=> .os (T.rx l) fun f=> .os p.2.str? fun z=> .Rq (!f z&&Nat.ble z.length sizeL) (.ret .none h))
 (.os (a1 as) fun a=> .os a.ref? fun r=> .os (h.at_ r).set? fun xs=> .os (lone xs) fun x=> .ret x.av (h.set r (.set [])))
def zrP(T:Tabs)(b:BM)(as:List AV)(h:Hp)(K:AV→Hp→Prop):Prop:=(znS T b as h).sem K
def znR(m:BI)(as:List AV)(h:Hp):Tr AV:=BI.casesOn (motive:=fun X=>Tr AV) m
 (.os (a1 as) fun a=> .al a.str? (fun z=> .Rq (Nat.ble z.length sizeL) (.ret (.int z.length) h)) (.os (zaY h a) fun q=> .Rq (Nat.ble q.2.length sizeL) (.ret (.int q.2.length) h)))
 (zhQ as fun z=> .os (one z) fun c=> .ret (.int c) h)
 (.os (a1 as) fun a=> .os a.int? fun i=> .Rq (decide (0≤i)&&decide (i≤1114111)) (.ret (.str [i.toNat]) h))
 (.os (a2 as) fun p=> .os p.1.int? fun i=> .os p.2.int? fun j=> .Rq (j != 0 && !Builtin.divisionGoesByPylong i j) (.ret (.tup [.int (i.fdiv j), .int (i.fmod j)]) h))
 (.os (a1 as) fun a=> .os (zaY h a) fun q=> .mp U.li? .int q.2 fun is=> .ret (.int is.sum) h) .no
 (.os (a1 as) fun a=> .os (zaY h a) fun q=> .mp U.li? .int q.2 fun is=> .Op U.i? (zso is) fun m=> .ret (.int m) h)
 (.os (a1 as) fun a=> .os a.ref? fun r=> .os (h.at_ r).set? fun xs=> .mp U.ls? SV.str xs fun ss=> .Rq (Nat.blt ss.length 64) (nuT false ((zfS ss).map .str) h))
 (.os (a2 as) fun p=> .os p.1.ref? fun r=> .os (h.at_ r).bound? fun X=> .ret (.ref h.nx) (h.new (.citer p.1 p.2 false)))
def zrN(m:BI)(as:List AV)(h:Hp)(K:AV→Hp→Prop):Prop:=(znR m as h).sem K
noncomputable def AO.range?(o:AO):Option (Int×Int×Int):=AO.casesOn (motive:=fun X=>Option (Int×Int×Int)) o (fun X X=>none) (fun X X=>none) (fun X=>none) (fun X X=>none) (fun X=>none) (fun X X=>none) (fun X X=>none) (fun X X X=>none) (fun a b c=>some (a,b,c)) (fun X=>none) (fun X X=>none) (fun X X=>none) (fun X X X=>none) (fun X X=>none) (fun X X=>none) (fun X=>none) (fun X=>none) (fun X X X=>none) none
theorem AO.range?_is{o:AO}{p:Int×Int×Int}:o.range? = some p→o = .range p.1 p.2.1 p.2.2:=AO.casesOn (motive:=fun o=>o.range? = some p→o = .range p.1 p.2.1 p.2.2) o (fun X X=>no) (fun X X=>no) (fun X=>no) (fun X X=>no) (fun X=>no) (fun X X=>no) (fun X X=>no) (fun X X X=>no) (fun a b c e=>sI e▸rfl) (fun X=>no) (fun X X=>no) (fun X X=>no) (fun X X X=>no) (fun X X=>no) (fun X X=>no) (fun X=>no) (fun X=>no) (fun X X X=>no) no
def zoR(i j l:Int)(h:Hp):Tr AV:= .ret (.ref h.nx) (h.new (.range i j l))
def znP(m:TY)(as:List AV)(h:Hp):Tr AV:=TY.casesOn (motive:=fun X=>Tr AV) m
 (zhQ as fun z=> .Op U.i? (zb7 z) fun i=> .ret (.int i) h)
 (.os (a1 as) fun a=> .os a.int? fun i=> .Op U.s? (zek i) fun z=> .ret (.str z) h)
 (.al (a1 as) (fun a=> .os a.int? fun i=>zoR 0 i 1 h) (.al (a2 as) (fun p=> .os p.1.int? fun i=> .os p.2.int? fun j=>zoR i j 1 h)
  (.os (a3 as) fun p=> .os p.1.int? fun i=> .os p.2.1.int? fun j=> .os p.2.2.int? fun l=> .Rq (l != 0 && !Builtin.divisionGoesByPylong (j-i) l) (zoR i j l h))))
 (.os (a1 as) fun a=> .os a.ref? fun r=> .os (h.at_ r).range? fun p=> .Rq (Builtin.Range.small p.1 p.2.1 p.2.2&&decide (Builtin.Range.rangeSize p.1 p.2.1 p.2.2≤sizeL)) (nuT false ((zci p.1 p.2.2 (Builtin.Range.rangeSize p.1 p.2.1 p.2.2).toNat).map .int) h))
 (.al (a1 as) (fun a=> .os (zaY h a) fun q=> .mp U.ls? .str q.2 fun ss=> .Rq (Nat.blt ss.length 4000) (.ret (.ref h.nx) (h.new (.set ((zaa ss).map .str))))) (.rq as.isEmpty (.ret (.ref h.nx) (h.new (.set [])))))
 (.os (a1 as) fun a=> .os (zaY h a) fun X=> .ret (.ref (h.nx+1)) ((h.new (.liter a 0)).new (.enumr h.nx 0)))
 (.os (a1 as) fun a=> .os a.ref? fun r=> .os (h.at_ r).list? fun q=> .ret (.ref h.nx) (h.new (.revit r ((q.2.length:Int)-1))))
 (.os (a1 as) fun a=> .al a.str? (fun X=> .ret (.ty .str) h) (.os (zaY h a) fun X=> .ret (.ty .list) h))
def zrM(m:TY)(as:List AV)(h:Hp)(K:AV→Hp→Prop):Prop:=(znP m as h).sem K
section
variable {T:Tabs} {P:PM T} {W W₁:Wd} {h h₁:Hp} {s s₁:Shared} {A:Around} {E:Value→Shared→Prop} {env:Env} {fr:Fr} {as:List AV} {K:AV→Hp→Prop} {a:AV} {z x:List Nat} {i j l:Int} {p:AV×AV}
theorem e1s(e:a1 as=some a)(q:a.str? = some z):a1 as=some (.str z):=AV.str?_is q▸e
theorem e1i(e:a1 as=some a)(q:a.int? = some i):a1 as=some (.int i):=AV.int?_is q▸e
theorem e2s(e:a2 as=some p)(q:p.1.str? = some z)(r:p.2.str? = some x):a2 as=some (.str z, .str x):=AV.str?_is q▸AV.str?_is r▸e
theorem e2i(e:a2 as=some p)(q:p.1.int? = some i)(r:p.2.int? = some j):a2 as=some (.int i, .int j):=AV.int?_is q▸AV.int?_is r▸e
theorem zcG{k:List Nat→Tr AV}{G:Prop}(H:(zhQ as k).sem K)(f:∀z,a1 as=some (.str z)→(k z).sem K→G):G:=H.go fun X e H=>H.go fun z q H=>f z (e1s e q) H
theorem zmQ(B:Tbl T P.c){b:BM}(H:zrP T b as h K):JV P (.builtin (zsy b)) as h K:=by
 induction b with
 | sJoin=>exact H.go fun p e H=>H.go fun z e1 H=>H.go fun q e2 H=>H.ex.elim fun ss H=>H.2.go fun c H'=>zpa e e1 e2 H.1 c H'
 | sUpper=>exact zcG H fun z e H=>H.go fun c H=>zlm e c H
 | sLower=>exact zcG H fun z e H=>H.go fun c H=>zm0 e c H
 | sReplace=>exact H.go fun p e H=>H.go fun z e1 H=>H.go fun x e2 H=>H.go fun y e3 H=>H.go fun c H=>zhY (z:=z) (x:=x) (y:=y) (AV.str?_is e1▸AV.str?_is e2▸AV.str?_is e3▸e) c H
 | sRstrip=>exact zcG H fun z e H=>H.go fun c H=>zj7 e c H
 | sCount=>exact H.go fun p e H=>H.go fun z e1 H=>H.go fun x e2 H=>zj5 (e2s e e1 e2) H
 | lAppend=>exact H.go fun p e H=>H.go fun r e1 H=>H.go fun q e2 H=>H.go fun c H=>zfE e e1 e2 c H
 | lPop=>exact H.go fun p e H=>H.go fun r e1 H=>H.go fun q e2 H=>H.go fun u e3 H=>H.go fun i e4 H=>H.go fun c H=>(aI c).elim fun c1 c2=>zoG (xs:=u.2) (y:=u.1) (f:=q.1) e e1 (by
   obtain ⟨f,xs⟩:=q
   induction xs using cL with
   | nil=>exact no e3
   | cons y ys=>obtain rfl:=sI e3;exact e2) (show p.2.int? = some 0 from (eq_of_beq c1:i=0)▸e4) c2 H
 | lCount=>exact H.go fun p e H=>H.go fun q e1 H=>H.ex.elim fun is H=>H.2.go fun i e2 H'=>zjU e e1 H.1 e2 H'
 | lReverse=>exact H.go fun a e H=>H.go fun r e1 H=>H.go fun q e2 H=>H.go fun c H=>zhW e e1 e2 c H
 | dItems=>exact H.go fun a e H=>H.go fun r e1 H=>H.go fun q e2 H=>H.go fun c H=>zmh B (f:=q.1) e e1 (by
   obtain ⟨f,xs⟩:=q
   obtain rfl:xs = []:=eI c
   exact e2) H
 | iBitLength=>exact H.go fun a e H=>H.go fun i e1 H=>zpM (e1i e e1) H
 | tGet=>exact H.go fun p e H=>H.go fun l e1 H=>H.go fun t e2 H=>H.go fun i e3 H=>zof B e e1 e2 e3 (H.go (fun a q H=>by unfold zgz;rw [q];exact H) fun q H=>by unfold zgz;rw [q];exact H)
 | rSearch=>exact H.go fun p e H=>H.go fun l e1 H=>H.go fun f e2 H=>H.go fun z e3 H=>H.go fun c H=>search_ok B e e1 e2 e3 c H
 | ePop=>exact H.go fun a e H=>H.go fun r e1 H=>H.go fun xs e2 H=>H.go fun x e3 H=>zoo (x:=x) e e1 (by
   induction xs using cL with
   | nil=>exact no e3
   | cons y ys=>induction ys using cL with
    | nil=>obtain rfl:=sI e3;exact e2
    | cons X Z=>exact no e3) H
theorem zrb{is:List Int}{q:Bool×List AV}{m:Int}(e:a1 as=some a)(e1:zaY h a=some q)(es:q.2=is.map .int)(e2:zso is=some m)(H:K (.int m) h):JV P (.builtin "max") as h K:=by
 induction is using cL with
 | nil=>exact no e2
 | cons x r=>exact zra e e1 es rfl (sI e2▸H)
theorem zmO{m:BI}(H:zrN m as h K):JV P (.builtin m.id) as h K:=by
 induction m with
 | len=>exact H.go fun a e H=>H.go (fun z e1 H=>H.go fun c H=>zp7 (e1s e e1) c H) fun X H=>H.go fun q e1 H=>H.go fun c H=>zp8 e e1 c H
 | ord=>exact zcG H fun z e H=>H.go fun c e1 H=>zqZ (znn e1▸e) H
 | chr=>exact H.go fun a e H=>H.go fun i e1 H=>H.go fun c H=>zrJ (e1i e e1) c H
 | divmod=>exact H.go fun p e H=>H.go fun i e1 H=>H.go fun j e2 H=>H.go fun c H=>zkn (e2i e e1 e2) c H
 | sum=>exact H.go fun a e H=>H.go fun q e1 H=>H.ex.elim fun is H=>zqD e e1 H.1 H.2
 | min=>exact H.elim
 | max=>exact H.go fun a e H=>H.go fun q e1 H=>H.ex.elim fun is H=>H.2.go fun m e2 H'=>zrb e e1 H.1 e2 H'
 | sorted=>exact H.go fun a e H=>H.go fun r e1 H=>H.go fun xs e2 H=>H.ex.elim fun ss H=>H.2.go fun c H'=>ziW e e1 e2 H.1 c H'
 | iter=>exact H.go fun p e H=>H.go fun r e1 H=>H.go fun b e2 H=>zmg e e1 e2 H
theorem zmM{m:TY}(H:zrM m as h K):JV P (.type m.id) as h K:=by
 induction m with
 | int=>exact zcG H fun z e H=>H.go fun i e1 H=>zpe e e1 H
 | str=>exact H.go fun a e H=>H.go fun i e1 H=>H.go fun z e2 H=>zoi (e1i e e1) e2 H
 | range=>exact H.go (fun a e H=>H.go fun i e1 H=>zjl (e1i e e1) H) fun X H=>H.go (fun p e H=>H.go fun i e1 H=>H.go fun j e2 H=>zjk (e2i e e1 e2) H) fun X H=>H.go fun p e H=>H.go fun i e1 H=>H.go fun j e2 H=>H.go fun l e3 H=>H.go fun c H=>zjj (i:=i) (j:=j) (l:=l) (AV.int?_is e1▸AV.int?_is e2▸AV.int?_is e3▸e) c H
 | list=>exact H.go fun a e H=>H.go fun r e1 H=>H.go fun p e2 H=>H.go fun c H=>zm4 e e1 (AO.range?_is e2) c H
 | set=>exact H.go (fun a e H=>H.go fun q e1 H=>H.ex.elim fun ss H=>H.2.go fun c H'=>zoq e e1 H.1 c H') fun X H=>H.go fun c H=>zos (eI c) H
 | enumerate=>exact H.go fun a e H=>H.go fun q e1 H=>zpq e e1 H
 | reversed=>exact H.go fun a e H=>H.go fun r e1 H=>H.go fun q e2 H=>zox e e1 e2 H
 | type=>exact H.go fun a e H=>H.go (fun z e1 H=>zln (e1s e e1) H) fun X H=>H.go fun q e1 H=>zlo e e1 H
end
def KR(W:Wd)(n:Nat)(kw:List (Str×AV))(kv:List (Str×Value)):Prop:=Rs (fun p q=>q.1=p.1∧VR W n p.2 q.2) kw kv
def zfG(c:Cx)(s:Shared)(f:Value):Prop:=∃k,(k=Keeper.frame∨k=Keeper.machine∨k=Keeper.boundFrame)∧Looks (model c.prog c.w) s.heap (keeperOf f) k
section
variable {T:Tabs} {P:PM T} {W W₁:Wd} {h h₁:Hp} {s s₁:Shared} {A:Around} {E:Value→Shared→Prop} {env:Env} {fr:Fr} {as:List AV} {K:AV→Hp→Prop} {a:AV} {pos pos':Pos} {x:Str} {n:Nat}
theorem zh8{c:Cx}{id:String}:zfG c s (.builtin id):=⟨.machine, .inr (.inl rfl), .now⟩
theorem zmd{c:Cx}{T:String}:zfG c s (.type T):=⟨.machine, .inr (.inl rfl), .now⟩
abbrev zs3(Q E:Value→Shared→Prop)(r:Result)(s:Shared):Prop:=match r with | .ok (.ret x)=>Q x s | .ok _=>False | .error e=>E e s
def za6(P:PM T)(f:AV)(as:List AV)(kw:List (Str×AV))(h:Hp)(K:AV→Hp→Prop):Prop:=∀(A:Around) (E:Value→Shared→Prop) (Q:Value→Shared→Prop) (s:Shared) (W:Wd) (fv:Value) (vs:List Value) (kv:List (Str×Value)),
 RoomC A P.n→Rel P.c W h s→VR W h.nx f fv→Rs (VR W h.nx) as vs→KR W h.nx kw kv→Kn P VV K W h.nx s Q→zfG P.c s fv∧codeAny (model P.c.prog P.c.w) A (.call fv ⟨vs,kv⟩) (zs3 Q E) s
def zkH(P:PM T)(f:AV)(as:List AV)(kw:List (Str×AV))(h:Hp)(K:AV→Hp→Prop):Prop:=alt f.bi? (fun m=>req kw.isEmpty (zrN m as h K)) (alt f.ty? (fun m=>req kw.isEmpty (zrM m as h K)) (za6 P f as kw h K))
def zpI(P:PM T)(m:MR)(as:List AV)(kw:List (Str×AV))(h:Hp)(K:AV→Hp→Prop):Prop:=MR.casesOn (motive:=fun X=>Prop) m (fun b self=>req kw.isEmpty (zrP T b (self :: as) h K)) fun f first=>zkH P f (first++as) kw h K
theorem KR.up{kw:List (Str×AV)}{kv:List (Str×Value)}{n':Nat}(L:Le n W n' W₁)(k:KR W n kw kv):KR W₁ n' kw kv:=k.imp fun X X=> .imp_right (.up L)
theorem KR.nil_of{kw:List (Str×AV)}{kv:List (Str×Value)}(k:KR W n kw kv)(e:kw.isEmpty=true):kv = []:=by
 induction k using Rs.casesOn with
 | nil=>rfl
 | cons X Z=>exact nb e
theorem zhy{f:AV}{kw:List (Str×AV)}(H:zkH P f as kw h K){Q:Value→Shared→Prop}{fv:Value}{vs:List Value}{kv:List (Str×Value)}(G:Go P W h s A)(Vf:VR W h.nx f fv)(Va:Rs (VR W h.nx) as vs)(Vk:KR W h.nx kw kv)(kn:Kn P VV K W h.nx s Q):zfG P.c s fv∧wpAny (model P.c.prog P.c.w) A (call fv vs kv) Q E s:=
 H.go (fun m e H=>H.go fun c H=>by
  obtain rfl:fv = .builtin m.id:=(AV.bi?_is e▸Vf:VR W h.nx (.bi m) fv)
  rw [Vk.nil_of c];exact ⟨zh8,zmO H A E Q s W vs G Va kn⟩) fun X H=>H.go (fun m e H=>H.go fun c H=>by
  obtain rfl:fv = .type m.id:=(AV.ty?_is e▸Vf:VR W h.nx (.ty m) fv)
  rw [Vk.nil_of c];exact ⟨zmd,zmM H A E Q s W vs G Va kn⟩) fun X H=>(H A E Q s W fv vs kv G.room.c G.rel Vf Va Vk kn).imp id wpAny_call
theorem zmN(B:Tbl T P.c){m:MR}{kw:List (Str×AV)}(H:zpI P m as kw h K){Q:Value→Shared→Prop}{r:Value×List Value}{vs:List Value}{kv:List (Str×Value)}(G:Go P W h s A)(Vm:GR W h.nx m r)(Va:Rs (VR W h.nx) as vs)(Vk:KR W h.nx kw kv)(kn:Kn P VV K W h.nx s Q):zfG P.c s r.1∧wpAny (model P.c.prog P.c.w) A (call r.1 (r.2++vs) kv) Q E s:=by
 induction m with
 | bm b self=>exact Vm.elim fun v e=>req.go H fun c H=>by rw [Vk.nil_of c,e.1];exact ⟨zh8,zmQ B H A E Q s W (v :: vs) G (.cons e.2 Va) kn⟩
 | um f first=>exact zhy H G Vm.1 (Vm.2.app Va) Vk kn
def zbz(ks:List Keyword):Bool:=ztS (fun k=>k.arg.isSome) ks
theorem zcA{pos:Pos}{env:Env}:∀{ks:List Keyword},zbz ks=true→(backToKw pos (keywordEach ks env)).all (·.1.isSome)=true
 | [],_=>rfl
 | ⟨n,e,p⟩ :: r,h=>by
  have h:=aI (show (n.isSome&&zbz r)=true from h)
  show (n.isSome&&(backToKw pos (keywordEach r env)).all (·.1.isSome))=true
  rw [h.1,zcA h.2];rfl
def JK(P:PM T)(fr:Fr)(ks:List Keyword)(h:Hp)(K:List (Str×AV)→Hp→Prop):Prop:=∀(pos:Pos) (A:Around) (E:Value→Shared→Prop) (Q:List Value→Shared→Prop) (s:Shared) (W:Wd) (env:Env),Go P W h s A→FrAt P.c W h.nx env fr→
 (∀W' kw vs h' s',Step P.c h.nx W s W' h' s'→KR W' h'.nx kw (((backToKw pos (keywordEach ks env)).filterMap (·.1)).zip vs)→K kw h'→Q vs s')→wpAny (model P.c.prog P.c.w) A (evalAll ((backToKw pos (keywordEach ks env)).map (·.2))) Q E s
theorem zto{K:List (Str×AV)→Hp→Prop}(H:K [] h):JK P fr [] h K:=fun pos A E Q s W env G F k=>wP (k _ _ _ _ _ (.refl G.rel) .nil H)
theorem zrh{K:List (Str×AV)→Hp→Prop}{e:Expr}{r:List Keyword}(H:JE P fr e h fun v h=>JK P fr r h fun vs h=>K ((x,v) :: vs) h):JK P fr (⟨some x,e,pos'⟩ :: r) h K:=fun pos A E Q s W env G F k=>
 wpAny_evalAll_cons (wB (H A E _ s W env G F fun X X X X X S₁ V₁ H=>wB (wpAny_standAt (wP (H pos A E _ _ _ env (G.on S₁) (F.up S₁.le) fun X X X X X S₂ V₂ H=>k _ _ _ _ _ (S₁.trans S₂) (.cons ⟨rfl,V₁.up S₂.le⟩ V₂) H)))))
theorem zkX{es:List Expr}:(es.map fun e=>(false,eval e env)).all (!·.1)=true:=by
 induction es with
 | nil=>rfl
 | cons e es ih=>exact ih
theorem zjq{es:List Expr}{ks:List Keyword}{pos:Pos}(h:(backToKw pos (keywordEach ks env)).all (·.1.isSome)=true):
  ((es.map fun e=>(false,eval e env)).any (·.1) || (backToKw pos (keywordEach ks env)).any (·.1.isNone))=false:=by
 have a:(es.map fun e=>(false,eval e env)).any (·.1)=false:=by induction es with | nil=>rfl | cons e es ih=>exact ih
 rw [a,Bool.false_or]
 exact List.any_eq_false.mpr fun x hx q=>by
  have:=aT h x hx
  rw [jN q] at this
  exact nb this
theorem zfh{M:Model}{f:Value}{es:List Expr}{kws:List (Option Str×Sem Value)}{Q:Args→Shared→Prop}(hall:kws.all (·.1.isSome)=true)
  (h:wpAny M A (spliced (es.map fun e=>(false,eval e env))) (fun vs s₁=>wpAny M A (evalAll (kws.map (·.2))) (fun ks s₂=>Q ⟨vs,(kws.filterMap (·.1)).zip ks⟩ s₂) E s₁) E s):wpAny M A (evalArgs f true (es.map fun e=>(false,eval e env)) kws) Q E s:=by
 induction es using cL with
 | cons e r=>exact evalArgs_kw hall h
 | nil=>
  unfold evalArgs
  show wpAny M A (spliced []>>=_) Q E s
  refine wB (wpAny_mono h (fun vs s₁ h₁=>?_) fun X X x=>x)
  refine wB (wP (wH ?_))
  simp only [hall,if_true]
  exact wB (wpAny_mono h₁ (fun ks s₂ h₂=>wB (wP (wP h₂))) fun X X x=>x)
theorem zeH{es:List Expr}{ks:List Keyword}{KK:List AV→List (Str×AV)→Hp→Prop}{Q:Value→Shared→Prop}{fv:Value}{first:List Value}(hk:zbz ks=true)(H:JEs P fr es h fun vs h=>JK P fr ks h fun kw h=>KK vs kw h)(G:Go P W h s A)(F:FrAt P.c W h.nx env fr)
  (k:∀W' s' vs vals kw kv h',Step P.c h.nx W s W' h' s'→Rs (VR W' h'.nx) vs vals→KR W' h'.nx kw kv→KK vs kw h'→zfG P.c s' fv∧wpAny (model P.c.prog P.c.w) A (call fv (first++vals) kv) Q E s'):
  wpAny (model P.c.prog P.c.w) A (callWith pos fv first (es.map fun e=>(false,eval e env)) (backToKw pos (keywordEach ks env))) Q E s:=
 callWith_of (P:=fun h=>zfG P.c {s with heap:=h} fv) (zjq (zcA hk)) (fun h q=>q) (zfh (zcA hk) (H A E _ s W env G F fun X X X X X S₁ V₁ H=>H pos A E _ _ _ env (G.on S₁) (F.up S₁.le) fun X X X X X S₂ V₂ H=>k _ _ _ _ _ _ _ (S₁.trans S₂) (VR.ups S₂.le V₁) V₂ H))
theorem zpx{es:List Expr}{ks:List Keyword}(ho:(zba es&&zbz ks)=true)(hx:zjA x=true)(H:J P (FI P fr) VV (fun env=>loadName env x) h fun f h=>JEs P fr es h fun vs h=>JK P fr ks h fun kw h=>zkH P f vs kw h K):JE P fr (.Call (.Name x pos') es ks pos) h K:=fun A E Q s W env G F kn=>by
 have ho:=aI ho
 refine wpAny_Call_Name_kw (wpAny_Name (H A E _ s W env G F fun X X X X X S₁ V₁ H=>?_) (zck hx).1)
 rw [zan ho.1]
 exact zeH ho.2 H (G.on S₁) (F.up S₁.le) fun X X X X X X X S₂ V₂ K₂ H=>zhy H (G.on S₂) (V₁.up S₂.le) V₂ K₂ ((kn.after S₁).after S₂)
theorem Tbl.b(B:Tbl T P.c):(∀a t,T.intTab a=some t→a∉P.c.tabs∧∃es k,P.c.B.get? a=some {cls:= .type "dict",data:= .dict es k})∧∀a f,T.rx a=some f→a∉P.c.tabs∧∃vs,P.c.B.get? a=some {cls:= .type "re.Pattern",data:= .fields vs}:=
 ⟨fun a t e=>(B.tab a t e).imp_right fun q=>q.2.1,fun a f e=>(B.rx a f e).imp_right fun q=>q.elim fun vs q=>q.elim fun X q=>q.elim fun X q=>q.elim fun X q=>q.elim fun X q=>⟨vs,q.1⟩⟩
theorem zpy(B:Tbl T P.c){o:Expr}{es:List Expr}{ks:List Keyword}(ho:(!zdH o&&zba es&&zbz ks&&Nat.blt (es.length+ks.length) 29&&Nat.beq pos'.endLine pos.line)=true)
  (H:JE P fr o h fun ov h=>(∀pl,J P (V1 ov) GR (fun v=>getMethod v x pl) h fun m h=>JEs P fr es h fun vs h=>JK P fr ks h fun kw h=>zpI P m vs kw h K)):JE P fr (.Call (.Attribute o x pos') es ks pos) h K:=fun A E Q s W env G F kn=>by
 simp only [Bool.and_eq_true] at ho
 obtain ⟨⟨⟨⟨h1,h2⟩,h3⟩,h4⟩,hp⟩:=ho
 have hl:=blt h4
 show wpAny _ A (eval (.Call (.Attribute o x pos') es ks pos) env) Q E s
 rw [arm_eval_Call,zdW ((Bool.not_eq_true' _).mp h1),zan h2]
 refine wB (H A E _ s W env G F fun W₁ X vo h₁ s₁ S₁ V₁ H=>wB (wpAny_standAt ?_))
 have form:methodCallForm (es.length+ks.length) (es.map fun e=>(false,eval e env)) (backToKw pos (keywordEach ks env))=true:=by
  unfold methodCallForm
  rw [zcA h3,zkX]
  simp only [Bool.true_and,decide_eq_true_eq]
  split <;> lia
 unfold methodCall
 rw [form]
 refine wB (wH (H _ A E _ _ _ vo (G.on S₁) V₁ fun X m r X X S V H=>?_))
 rw [show methodCallPos true o env pos' pos=Pure.pure pos by unfold methodCallPos;simp [Nat.eq_of_beq_eq_true hp]]
 exact wB (wP (zeH h3 H (G.on S) (F.up (S₁.trans S).le) fun W₂ X X X X X h₂ S₂ V₂ K₂ H=>zmN B H (G.on S₂) (by
  induction m with
  | bm b self=>exact V.imp fun X=> .imp_right (.up S₂.le)
  | um f first=>exact ⟨V.1.up S₂.le,VR.ups S₂.le V.2⟩) V₂ K₂ (((kn.after S₁).after S).after S₂)))
end
theorem Rs.allI{α β:Type}{R S:α→β→Prop}{p:α→Bool}(i:∀x y,p x=true→R x y→S x y):∀{xs:List α} {ys:List β},xs.all p=true→Rs R xs ys→Rs S xs ys
 | [],_,_, .nil=> .nil
 | _ :: _,_,h, .cons a k=> .cons (i _ _ (aI h).1 a) (Rs.allI i (aI h).2 k)
def AO.bf(n:Nat)(o:AO):Bool:=Option.casesOn (motive:=fun X=>Bool) o.frame? (o.bd n) fun l=>l.all fun e=>e.2.bd n
section
variable {c:Cx} {n m:Nat} {W:Wd} {ob:Obj}
theorem VR.bd{x:AV}{v:Value}(b:x.bd m=true)(h:VR W n x v):VR W m x v:=by
 induction x with
 | ref k=>exact ⟨blt b,h.2⟩
 | _=>exact h
theorem zcV{p:AV→Bool}{x:Str}{v:AV}:∀{l:List (Str×AV)},(l.all fun e=>p e.2)=true→l.lookup x=some v→p v=true
 | [],_,e=>no e
 | q :: r,h,e=>by
  have h:=aI h
  rw [List.lookup_cons] at e
  induction z:x==q.1 with
  | true=>rw [z] at e;exact sI e▸h.1
  | false=>rw [z] at e;exact zcV h.2 e
theorem ObjIs.bf{o:AO}(b:o.bf m=true)(h:ObjIs c W n ob o):ObjIs c W m ob o:=by
 induction o with
 | list f=>induction f with
  | true=>exact h.imp fun X=> .imp fun X=> .imp_right (.allI (fun X X=>VR.bd) b)
  | false=>exact h
 | dict f es=>induction f with
  | true=>exact h.imp fun X=> .imp fun X=> .imp_right (.imp_left (.allI (p:=fun e:List Nat×AV=>e.2.bd m) (fun X X b=> .imp fun X=> .imp fun X=> .imp_right (VR.bd b)) b))
  | false=>exact h
 | cell v=>induction v with
  | none=>exact h
  | some=>exact h.imp fun X=> .imp_right (.bd b)
 | inst | items | diter | revit=>exact ⟨blt b,h.2⟩
 | clo X cl=>exact h.elim fun f h=>h.elim fun v h=>⟨f,v,h.1,h.2.1,h.2.2.1,fun x k e=>⟨((zcU (g:=id) e).2 _ b).elim fun X q=>blt q,(h.2.2.2.1 x _ e).2⟩,h.2.2.2.2⟩
 | bound=>exact h.imp fun X=> .imp_right (.bd b)
 | citer=>exact h.imp fun X=> .imp fun X=> .imp_right (.imp (.bd (aI b).1) (.bd (aI b).2))
 | liter=>exact h.imp fun X=> .imp_left (.bd b)
 | enumr j=>exact h.elim fun o h=>⟨o,blt b,h.2⟩
 | frame l=>exact h.imp fun X=> .imp fun X=> .imp_right (.imp_right fun h x v e=>(h x v e).imp fun X=> .imp_right (.bd (zcV (p:=AV.bd m) b e)))
 | _=>exact h
end
structure Wk(h h':Hp):Prop where
 le:h'.nx≤h.nx
 sub:∀k,k<h'.nx→(h'.at_ k).live=true→(h.at_ k).live=true∧∀c W ob,ObjIs c W h.nx ob (h.at_ k)→ObjIs c W h'.nx ob (h'.at_ k)
section
variable {c:Cx} {n:Nat} {W W':Wd} {h h' h₁:Hp} {s s':Shared}
theorem Wk.refl:Wk h h:=⟨rL _,fun X X l=>⟨l,fun X X X=>id⟩⟩
theorem Wk.trans(a:Wk h h₁)(b:Wk h₁ h'):Wk h h':=⟨lT b.le a.le,fun k q l=>(b.sub k q l).elim fun l' i=>(a.sub k (lL q b.le) l').imp id fun j c W ob z=>i c W ob (j c W ob z)⟩
theorem Rel.wk(R:Rel c W h s)(w:Wk h h'):Rel c W h' s:=
 ⟨fun k q l=>(w.sub k q l).elim fun l' i=>(R.at_ k (lL q w.le) l').imp id fun ⟨ob,h1,h2⟩=>⟨ob,h1,i _ _ _ h2⟩,fun i j a b l m e=>R.apart i j (lL a w.le) (lL b w.le) (w.sub i a l).1 (w.sub j b m).1 e,
  fun a ob e=>⟨(R.fz a ob e).1,(R.fz a ob e).2.1,fun k q l=>(R.fz a ob e).2.2 k (lL q w.le) (w.sub k q l).1⟩,R.amb⟩
theorem Step.wk(S:Step c n W s W' h s')(w:Wk h h')(l:n≤h'.nx):Step c n W s W' h' s':=
 ⟨S.rel.wk w,⟨l,S.le.pl,S.le.fz⟩,S.size,fun k a b=>S.fresh k a (lL b w.le),S.freshF,S.kept⟩
theorem rng{α:Type}{f g:Nat→α}{m:Nat}(e:(List.range m).map f=(List.range m).map g){k:Nat}(q:k<m):f k=g k:=by
 have:=congrArg (·[k]?) e
 simp only [List.getElem?_map,List.getElem?_range q,Option.map_some] at this
 exact sI this
theorem Wk.cut(e:(List.range h'.nx).map h.at_=(List.range h'.nx).map h'.at_)(b:(Nat.ble h'.nx h.nx&&(List.range h'.nx).all fun k=>!(h'.at_ k).live || (h'.at_ k).bf h'.nx)=true):Wk h h':=by
 have b:=aI b
 refine ⟨jL b.1,fun k q l=>?_⟩
 have z:=aT b.2 k (List.mem_range.mpr q)
 rw [rng e q]
 exact ⟨l,fun c W ob i=>i.bf (by rw [l] at z;exact z)⟩
theorem Wk.frm{L:Nat}{l l':List (Str×AV)}(hf:(h.at_ L).frame? = some l')(e:(l.map fun p=>l'.lookup p.1)=l.map fun p=>some p.2):Wk h (h.set L (.frame l)):=by
 refine ⟨rL _,fun k q u=>?_⟩
 by_cases z:k=L
 ·subst z
  rw [show (h.set k (.frame l)).at_ k = .frame l from upd_self,AO.frame?_is hf]
  refine ⟨rfl,fun c W ob i=>i.imp fun X=> .imp fun X=> .imp_right (.imp_right fun i x v g=>i x v ?_)⟩
  clear u i hf q
  induction l with
  | nil=>exact no g
  | cons p r ih=>
   rw [List.map_cons,List.map_cons] at e
   rw [List.lookup_cons] at g
   induction z:x==p.1 with
   | true=>rw [z] at g;rw [eq_of_beq z,(List.cons.inj e).1];exact g
   | false=>rw [z] at g;exact ih (List.cons.inj e).2 g
 ·rw [show (h.set L (.frame l)).at_ k=h.at_ k from zae z] at u⊢
  exact ⟨u,fun X X X=>id⟩
theorem Wk.drop(k:Nat):Wk h (h.set k .other):=⟨rL _,fun j q u=>by
 by_cases z:j=k
 ·subst z;rw [show (h.set j .other).at_ j = .other from upd_self] at u;exact nb u
 ·rw [show (h.set k .other).at_ j=h.at_ j from zae z] at u⊢;exact ⟨u,fun X X X=>id⟩⟩
end
noncomputable def zoK(T:String):Bool:=["enumerate", "zip", "dict_itemiterator", "dict_reverseitemiterator", "odict_iterator", "itertools.zip_longest", "itertools.pairwise"].contains T
section
variable {T:Tabs} {P:PM T} {W W₁:Wd} {h h₁:Hp} {s s₁:Shared} {A:Around} {E:Value→Shared→Prop} {K:AV→Hp→Prop} {x:AV} {n:Nat} {t:Expr} {it l:Nat} {q:Bool×List AV}
theorem ifGo{α:Type}{b c:Bool}{x y:Sem α}{Q:α→Shared→Prop}(e:b=false)(H:wpAny (model P.c.prog P.c.w) A y Q E s):wpAny (model P.c.prog P.c.w) A (if (b&&c)=true then x else y) Q E s:=by
 subst e
 exact H
theorem zi6{a:Addr}{v:Value}{o:Obj}{T:String}{Q:Unit→Shared→Prop}{p:Pos}(ho:s.heap.get? a=some o)(hT:o.cls = .type T)(hn:zoK T=false)(h:Q () s):wpAny (model P.c.prog P.c.w) A (letOwnedTupleGo (.List [] p) (.ref a) v) Q E s:=by
 induction v with
 | ref=>
  refine wB (wpAny_load ho ?_)
  obtain ⟨oc,od,dd,osl⟩:=o
  obtain rfl:oc = .type T:=hT
  induction dd with
  | fields=>exact ifGo hn (wP h)
  | _=>exact wP (a:=()) h
 | _=>exact wP (a:=()) h
set_option smartUnfolding false in
theorem zcX{a:Addr}{v:Value}{o:Obj}{T:String}{Q:Unit→Shared→Prop}(ho:s.heap.get? a=some o)(hT:o.cls = .type T)(hn:zoK T=false)(h:Q () s):wpAny (model P.c.prog P.c.w) A (letOwnedTupleGo t (.ref a) v) Q E s:=by
 have z:∀p,_:=fun p=>zi6 (P:=P) (A:=A) (E:=E) (v:=v) (p:=p) ho hT hn h
 induction t using cE with
 | Tuple=>exact z default
 | List=>exact z default
 | _=>exact wP (a:=()) h
noncomputable def zny(o:AO):Bool:=AO.casesOn (motive:=fun X=>Bool) o (fun X X=>false) (fun X X=>false) (fun X=>false) (fun X X=>false) (fun X=>false) (fun X X=>false) (fun X X=>false) (fun X X X=>true) (fun X X X=>false) (fun X=>false) (fun X X=>true) (fun X X=>true) (fun X X X=>true) (fun X X=>true) (fun X X=>true) (fun X=>true) (fun X=>false) (fun X X X=>false) false
noncomputable def AO.items?(o:AO):Option Nat:=AO.casesOn (motive:=fun X=>Option Nat) o (fun X X=>none) (fun X X=>none) (fun X=>none) (fun X X=>none) (fun X=>none) (fun X X=>none) (fun X X=>none) (fun X X X=>none) (fun X X X=>none) some (fun X X=>none) (fun X X=>none) (fun X X X=>none) (fun X X=>none) (fun X X=>none) (fun X=>none) (fun X=>none) (fun X X X=>none) none
theorem AO.items?_is{o:AO}{d:Nat}:o.items? = some d→o = .items d:=AO.casesOn (motive:=fun o=>o.items? = some d→o = .items d) o (fun X X=>no) (fun X X=>no) (fun X=>no) (fun X X=>no) (fun X=>no) (fun X X=>no) (fun X X=>no) (fun X X X=>no) (fun X X X=>no) (fun a e=>sI e▸rfl) (fun X X=>no) (fun X X=>no) (fun X X X=>no) (fun X X=>no) (fun X X=>no) (fun X=>no) (fun X=>no) (fun X X X=>no) no
def zk0(x:AV)(h:Hp):Tr AV:= .al x.str? (fun s=> .ret (.ref h.nx) (h.new (.siter s 0))) (.al (zaY h x) (fun X=> .ret (.ref h.nx) (h.new (.liter x 0))) (.os x.ref? fun r=>
 .al (h.at_ r).range? (fun p=> .Rq (Builtin.Range.small p.1 p.2.1 p.2.2) (.ret (.ref h.nx) (h.new (.riter p.1 (Builtin.Range.rangeSize p.1 p.2.1 p.2.2) p.2.2))))
  (.al (h.at_ r).items? (fun d=> .os (h.at_ d).dict? fun p=> .rq p.2.isEmpty (.ret (.ref h.nx) (h.new (.diter d)))) (.rq (zny (h.at_ r)) (.ret x h)))))
def zmf(x:AV)(h:Hp)(K:AV→Hp→Prop):Prop:=(zk0 x h).sem K
theorem zhn{c:Cx}(R:Rel c W h s){d:Nat}{p:Bool×List (List Nat×AV)}(hd:d<h.nx)(e:(h.at_ d).dict? = some p)(e0:p.2.isEmpty=true):s.heap.DictAt (PySem.strKind c.prog c.w) (W.pl d) [] 0:=by
 obtain ⟨f,es⟩:=p
 obtain rfl:es = []:=eI e0
 obtain ⟨ob,p2,⟨l⟩,m,rfl,p3,X,z⟩:=R.obj hd (AO.dict?_is e) rfl
 cases p3
 obtain rfl:=z rfl
 exact ⟨_,_,p2,⟨rfl,rfl,rfl⟩,rfl,fun e he=>absurd he (Array.not_mem_empty _), .nil,List.nodup_nil⟩
set_option tactic.hygienic true in
theorem zeD{r:Nat}{Q:Value→Shared→Prop}(R:Rel P.c W h s)(hr:r<h.nx)(e:zny (h.at_ r)=true)(q:Q (.ref (W.pl r)) s):wpAny (model P.c.prog P.c.w) A (pyIter (.ref (W.pl r))) Q E s:=by
 have z:=R.at_ r hr
 revert z e
 induction h.at_ r <;> intro e z <;> first | exact nb e | skip
 all_goals obtain ⟨ob,k,z⟩:=(z rfl).2
 ·obtain ⟨X,Z,rfl,Y⟩:=z
  exact Mine.self_iter ⟨_,k,rfl⟩ Mine.slot_ci_iter Mine.entry_ci_iter (Mine.args_ci_iter _) Mine.slot_ci_next q
 ·rename_i l i
  obtain ⟨v,z0,z1,z2⟩:=z
  exact Mine.self_iter ⟨ob,k,z1⟩ slot_listiter_iter entry_listiter_iter (args_listiter_iter _) slot_listiter_next q
 ·obtain ⟨t,z1,z2⟩:=z
  unfold strIterType at z1
  split at z1
  ·exact wpAny_pyIter_striter_ascii ⟨ob,k,z1,z2⟩ q
  ·exact wpAny_pyIter_striter_wide ⟨ob,k,z1,z2⟩ q
 ·obtain rfl:=z
  exact wpAny_pyIter_rangeiter k q
 ·obtain ⟨old,X,rfl⟩:=z
  exact wpAny_pyIter_enum k q
 ·have z1:=z.2.1
  have z2:=z.2.2
  exact Mine.self_iter ⟨ob,k,z1⟩ Mine.slot_lr_iter Mine.entry_lr_iter (Mine.args_lr_iter _) Mine.slot_lr_next q
 ·obtain ⟨X,rfl⟩:=z
  exact Mine.self_iter ⟨_,k,rfl⟩ Mine.slot_di_iter Mine.entry_di_iter (Mine.args_di_iter _) Mine.slot_di_next q
theorem zga(H:zmf x h K):J P (V1 x) VV (fun v=>pyIter v) h K:=fun A E Q s W v G I k=>by
 show wpAny _ A (pyIter v) Q E s
 refine H.go (fun z e H=>?_) fun X H=>H.go (fun p e H=>?_) fun X H=>H.go fun r e H=>?_
 ·exact (AV.str?_is e▸I:VR _ _ (.str z) v).elim fun t e=>e▸wpAny_pyIter_strU (k.nu (o:= .siter z 0) G.rel (tk:=s.toks) (d:=s.drawn) rfl (fun X X=>⟨t,rfl,rfl⟩) H)
 ·obtain ⟨l,vs,m,rfl,z1,z2⟩:=zaj G.rel I e
  exact wpAny_pyIter_list ⟨_,z1,rfl,_,rfl⟩ (k.nu (o:= .liter x 0) G.rel (tk:=s.toks) (d:=s.drawn) rfl (fun X L=>⟨_,VR.up L I,rfl,rfl⟩) H)
 ·obtain ⟨hr,rfl⟩:=(AV.ref?_is e▸I:VR _ _ (.ref r) v)
  refine H.go (fun p e1 H=>H.go fun c H=>?_) fun X H=>H.go (fun d e1 H=>H.go fun p e2 H=>H.go fun c H=>?_) fun X H=>H.go fun c H=>?_
  ·obtain ⟨ob,k1,t,u,v,rfl⟩:=G.rel.obj hr (AO.range?_is e1) rfl
   exact wpAny_pyIter_range k1 c (k.nu (o:= .riter p.1 (Builtin.Range.rangeSize p.1 p.2.1 p.2.2) p.2.2) G.rel (tk:=s.toks) (d:=s.drawn) rfl (fun X X=>rfl) H)
  ·obtain ⟨ob,k1,hd,rfl⟩:=G.rel.obj hr (AO.items?_is e1) rfl
   exact wpAny_pyIter_items ⟨_,k1,rfl,rfl⟩ (zhn G.rel hd e2 c) (k.nu (o:= .diter d) G.rel (tk:=s.toks) (d:=s.drawn) rfl (fun X L=>⟨Nat.lt_succ_of_lt hd,by rw [L.pl d hd];rfl⟩) H)
  ·exact zeD G.rel hr c (k (.refl G.rel) I H)
end
section
variable {T:Tabs} {P:PM T} {W W₁:Wd} {h h₁:Hp} {s s₁:Shared} {A:Around} {E:Value→Shared→Prop} {K:Option AV→Hp→Prop} {x:AV} {n:Nat} {t:Expr} {it l k:Nat} {q:Bool×List AV} {o o':AO} {v:AV}
def JN(P:PM T)(t:Expr)(it:Nat)(h:Hp)(K:Option AV→Hp→Prop):Prop:=∀(A:Around) (E:Value→Shared→Prop) (Q:Option Value→Shared→Prop) (s:Shared) (W:Wd),Go P W h s A→it<h.nx→
 (∀W' h' s',Step P.c h.nx W s W' h' s'→K none h'→Q none s')→
 (∀v s',wpAny (model P.c.prog P.c.w) A (letOwnedTupleGo t (.ref (W.pl it)) v) (fun X s₂=>∃W' x h',Step P.c h.nx W s W' h' s₂∧VR W' h'.nx x v∧K (some x) h') E s'→Q (some v) s')→wpAny (model P.c.prog P.c.w) A (pyNext (.ref (W.pl it))) Q E s
theorem zgV(eo:h.at_ it=o)(l0:o.live=true)(l1:o'.live=true)(f:∀(A:Around) (E:Value→Shared→Prop) s W ob,Go P W h s A→s.heap.get? (W.pl it)=some ob→ObjIs P.c W h.nx ob o→∀R:Option Value→Shared→Prop,
  (∀h' tk v ob' T,VR W h.nx x v→Heap.SameBut (W.pl it) s.heap h'→h'.get? (W.pl it)=some ob'→ob'.cls = .type T→zoK T=false→ObjIs P.c W h.nx ob' o'→R (some v) {s with heap:=h',toks:=tk})→wpAny (model P.c.prog P.c.w) A (pyNext (.ref (W.pl it))) R E s)
  (H:K (some x) (h.set it o')):JN P t it h K:=fun A E Q s W G hr k1 k2=>by
 obtain ⟨ob,g,z⟩:=G.rel.obj hr eo l0
 exact f A E s W ob G g z Q fun h' tk v ob' T hv sb g' c1 c2 z'=>k2 _ _ (zcX (s:={s with heap:=h',toks:=tk}) g' c1 c2 ⟨W,x,_, .set (s':={s with heap:=h',toks:=tk}) G.rel (k:=it) o' hr (eo▸l0) (fun X=>⟨ob',g',z'⟩) (fun b o e hb=>(sb.2 b hb).trans e) rfl rfl (Nat.le_of_eq sb.1.symm),hv,H⟩)
theorem zjJ(eo:h.at_ it=o)(l0:o.live=true)(f:∀(A:Around) (E:Value→Shared→Prop) s W ob,Go P W h s A→s.heap.get? (W.pl it)=some ob→ObjIs P.c W h.nx ob o→∀R:Option Value→Shared→Prop,(∀h',Heap.ExtBut (W.pl it) s.heap h'→R none {s with heap:=h'})→wpAny (model P.c.prog P.c.w) A (pyNext (.ref (W.pl it))) R E s)
  (H:K none (h.set it .other)):JN P t it h K:=fun A E Q s W G hr k1 k2=>by
 obtain ⟨ob,g,z⟩:=G.rel.obj hr eo l0
 refine wpAny_sz (f A E s W ob G g z (fun r s'=>s.heap.objs.size≤s'.heap.objs.size→Q r s') fun h' ex hz=>k1 _ _ _ (.set (s':={s with heap:=h'}) G.rel (k:=it) .other hr (eo▸l0) (fun l=>nb l) (fun b o e hb=>ex b o hb e) rfl rfl hz) H)
theorem zoZ(eo:h.at_ it = .liter v k)(e:zaY h v=some q)(ex:q.2[k]? = some x)(H:K (some x) (h.set it (.liter v (k+1)))):JN P t it h K:=zgV eo rfl rfl (fun A E s W ob G g z R f=>by
 obtain ⟨u,z0,z1,z2⟩:=z
 obtain ⟨l,vs,m,rfl,y1,y2⟩:=zaj G.rel z0 e
 obtain ⟨w,e1,e2⟩:=y2.get k x ex
 exact wpAny_pyNext_list_item ⟨_,g,z1,z2⟩ ⟨_,y1,rfl,_,rfl⟩ (Array.getElem?_toList.symm.trans e1) fun h' hit hs=>hit.elim fun o' g=>f h' s.toks w o' _ (VR.up (zco q.1) e2) hs g.1 g.2.1 rfl ⟨_,z0,g.2.1,g.2.2⟩) H
theorem zlU(eo:h.at_ it = .liter v k)(e:zaY h v=some q)(ex:q.2[k]? = none)(H:K none (h.set it .other)):JN P t it h K:=zjJ eo rfl (fun A E s W ob G g z R f=>by
 obtain ⟨u,z0,z1,z2⟩:=z
 obtain ⟨l,vs,m,rfl,y1,y2⟩:=zaj G.rel z0 e
 exact wpAny_pyNext_list_end G.room.hand ⟨_,g,z1,z2⟩ ⟨_,y1,rfl,_,rfl⟩ (Array.getElem?_eq_none (y2.size▸List.getElem?_eq_none_iff.mp ex)) f) H
theorem zoW{z:List Nat}{c:Nat}(eo:h.at_ it = .siter z k)(ex:z[k]? = some c)(H:K (some (.str [c])) (h.set it (.siter z (k+1)))):JN P t it h K:=zgV eo rfl rfl (fun A E s W ob G g y R f=>by
 obtain ⟨u,k1,k2⟩:=y
 have hch:(strOf z).cps[k]? = some c:=List.getElem?_toArray.trans ex
 have fin:∀h':Heap,h'.IsStrIter (W.pl it) (strIterType (strOf z)) (strOf z) u (k+1)→Heap.SameBut (W.pl it) s.heap h'→R (some (.str ⟨#[c]⟩ s.toks)) {s with heap:=h',toks:=s.toks+1}:=fun h' hit hs=>hit.elim fun o' g=>f h' (s.toks+1) _ o' _ ⟨_,rfl⟩ hs g.1 g.2.1 (by unfold strIterType;split <;> decide) ⟨u,g.2.1,g.2.2⟩
 unfold strIterType at fin k1
 split at k1
 ·rename_i gg;rw [if_pos gg] at fin;exact wpAny_pyNext_ascii_item ⟨_,g,k1,k2⟩ hch fin
 ·rename_i gg;rw [if_neg gg] at fin;exact wpAny_pyNext_wide_item ⟨_,g,k1,k2⟩ hch fin) H
theorem zlR{z:List Nat}(eo:h.at_ it = .siter z k)(ex:z[k]? = none)(H:K none (h.set it .other)):JN P t it h K:=zjJ eo rfl (fun A E s W ob G g y R f=>by
 obtain ⟨u,k1,k2⟩:=y
 have hch:(strOf z).cps[k]? = none:=List.getElem?_toArray.trans ex
 unfold strIterType at k1
 split at k1
 ·exact wpAny_pyNext_ascii_end G.room.hand ⟨_,g,k1,k2⟩ hch f
 ·exact wpAny_pyNext_wide_end G.room.hand ⟨_,g,k1,k2⟩ hch f) H
theorem zoX{a m d:Int}(eo:h.at_ it = .riter a m d)(hm:0<m)(H:K (some (.int a)) (h.set it (.riter (a+d) (m-1) d))):JN P t it h K:=zgV eo rfl rfl (fun A E s W ob G g y R f=>by
 obtain rfl:=y
 exact wpAny_pyNext_range_item g hm fun h' hit hs=>f h' _ _ _ _ ⟨_,rfl⟩ hs hit rfl rfl rfl) H
theorem zlS{a m d:Int}(eo:h.at_ it = .riter a m d)(hm:m≤0)(H:K none (h.set it .other)):JN P t it h K:=zjJ eo rfl (fun A E s W ob G g y R f=>by
 obtain rfl:=y
 exact wpAny_pyNext_range_end G.room.hand g hm f) H
theorem zoY(eo:h.at_ it = .revit l (k:Int))(e:(h.at_ l).list? = some q)(ex:q.2[k]? = some x)(H:K (some x) (h.set it (.revit l ((k:Int)-1)))):JN P t it h K:=zgV eo rfl rfl (fun A E s W ob G g z R f=>by
 obtain ⟨hl,z1,z2⟩:=z
 obtain ⟨vs,m,y1,y2⟩:=zcW G.rel hl e
 obtain ⟨w,e1,e2⟩:=y2.get k x ex
 exact wpAny_pyNext_rev_item ⟨_,g,z1,z2⟩ ⟨_,y1,rfl,_,rfl⟩ (Array.getElem?_toList.symm.trans e1) fun h' hit hs=>hit.elim fun o' g=>f h' s.toks w o' _ (VR.up (zco q.1) e2) hs g.1 g.2.1 rfl ⟨hl,g.2.1,g.2.2⟩) H
theorem zlT(eo:h.at_ it = .revit l (-1))(H:K none (h.set it .other)):JN P t it h K:=zjJ eo rfl (fun A E s W ob G g z R f=>wpAny_pyNext_rev_end G.room.hand ⟨_,g,z.2.1,z.2.2⟩ f) H
theorem zp1{p:Bool×List (List Nat×AV)}(eo:h.at_ it = .diter l)(e:(h.at_ l).dict? = some p)(e0:p.2.isEmpty=true)(H:K none (h.set it .other)):JN P t it h K:=zjJ eo rfl (fun A E s W ob G g z R f=>by
 obtain ⟨hd,rfl⟩:=z
 exact wpAny_pyNext_items_end (i:=0) (ep:=0) (kvs:= []) G.room.hand g (zhn G.rel hd e e0) rfl f) H
end
section
variable {T:Tabs} {P:PM T} {W W₁:Wd} {h h₁:Hp} {s s₁:Shared} {A:Around} {E:Value→Shared→Prop} {K:Option AV→Hp→Prop} {x:AV} {n:Nat} {it l k j:Nat} {q:Bool×List AV} {v:AV} {es:List Expr} {pos:Pos} {b:SV}
theorem zdN(G:Go P W h s A)(hr:it<h.nx)(eo:h.at_ it = .enumr j k)(ej:h.at_ j = .liter v k)(e:zaY h v=some q):∃old l vs m ob,j<h.nx∧s.heap.get? (W.pl it)=some {cls:= .type "enumerate",data:= .fields #[.none, .bool false, .ref (W.pl j),rawInt k, .none,old]}∧s.heap.get? (W.pl j)=some ob∧ob.cls = .type "list_iterator" ∧ob.data = .fields #[.ref l, .int k 0]∧VR W h.nx v (.ref l)∧s.heap.get? l=some (zbY "list" vs m)∧Rs (VR W (lim q.1 h.nx)) q.2 vs.toList∧W.pl it≠W.pl j:=by
 obtain ⟨ob,g,old,hj,rfl⟩:=G.rel.obj hr eo rfl
 obtain ⟨ob',g',u,z0,z1,z2⟩:=G.rel.obj hj ej rfl
 obtain ⟨l,vs,m,rfl,y1,y2⟩:=zaj G.rel z0 e
 exact ⟨old,l,vs,m,ob',hj,g,g',z1,z2,z0,y1,y2,fun q=>by
  have:=G.rel.apart it j hr hj (eo▸rfl) (ej▸rfl) q
  subst this
  rw [eo] at ej;cases ej⟩
theorem zr6{kk:Nat}(eo:h.at_ it = .enumr j k)(ej:h.at_ j = .liter v k)(e:zaY h v=some q)(ex:q.2[k]? = some x)(eb:sv? x=some b)(H:K (some (.tup [.int k,b])) ((h.set j (.liter v (k+1))).set it (.enumr j (k+1)))):JN P (.Tuple es kk pos) it h K:=fun A E Q s W G hr k1 k2=>by
 obtain ⟨old,l,vs,m,ob,hj,g,g',z1,z2,z0,y1,y2,ne⟩:=zdN G hr eo ej e
 obtain ⟨w,e1,e2⟩:=y2.get k x ex
 refine wpAny_sz (wpAny_pyNext_enum_item (Q:=fun r s'=>s.heap.objs.size≤s'.heap.objs.size→Q r s') (i:=k) g ⟨_,g',z1,z2⟩ ⟨_,y1,rfl,_,rfl⟩ (Array.getElem?_toList.symm.trans e1) ne fun h' eo' hit' ht' hz hk hsz=>k2 _ _ (wpAny_letOwnedTupleGo_enum eo' fun h₂ he₂ hs₂=>?_))
 obtain ⟨o',g1,g2,g3⟩:=hit'
 have S₁:Step P.c h.nx W s W (h.set j (.liter v (k+1))) {s with heap:=s.heap.update (W.pl j) fun X=>o'}:= .set G.rel (k:=j) _ hj (ej▸rfl) (fun X=>⟨o',Heap.get?_update_self (fun X=>o') g' (Obj.isFreed_of_fields g3),_,z0,g2,g3⟩) (fun b o eb hb=>(Heap.get?_update_ne _ _ _ _ hb).trans eb) rfl rfl (Nat.le_of_eq (upd_size _ _ _).symm)
 have ea:(h.set j (.liter v (k+1))).at_ it = .enumr j k:=(zae fun q=>ne (congrArg W.pl q)).trans eo
 let eO:Obj:={cls:= .type "enumerate",data:= .fields #[.none, .bool false, .ref (W.pl j),rawInt ((k:Int)+1), .none,w]}
 have ga:(s.heap.update (W.pl j) fun X=>o').get? (W.pl it)=some _:=(Heap.get?_update_ne _ _ _ _ ne).trans g
 have S₂:Step P.c h.nx W s W ((h.set j (.liter v (k+1))).set it (.enumr j (k+1))) {s with heap:=(s.heap.update (W.pl j) fun X=>o').update (W.pl it) fun X=>eO}:=S₁.trans (.set S₁.rel (k:=it) _ hr (ea▸rfl) (fun X=>⟨eO,Heap.get?_update_self (fun X=>eO) ga rfl,w,hj,rfl⟩) (fun b o eb hb=>(Heap.get?_update_ne _ _ _ _ hb).trans eb) rfl rfl (Nat.le_of_eq (upd_size _ _ _).symm))
 have hlt:=Heap.lt_size g
 have tup:h₂.get? s.heap.objs.size=some (zbY "tuple" #[.int k s.toks,w] 0):=(hs₂.2 _ (Nat.ne_of_gt hlt)).trans ht'
 have sz2:((s.heap.update (W.pl j) fun X=>o').update (W.pl it) fun X=>eO).objs.size=s.heap.objs.size:=by rw [upd_size,upd_size]
 have S₃:=Step.frz S₂.rel (s':={s with heap:=h₂,toks:=s.toks+1}) (l:=s.heap.objs.size) tup (sz2▸rL _) (G.rel.outside (rL _)) (fun b o eb=>by
  by_cases hba:b=W.pl it
  ·subst hba;rw [Heap.get?_update_self (fun X=>eO) ga rfl] at eb;exact eb▸he₂
  ·rw [Heap.get?_update_ne _ _ _ _ hba] at eb
   by_cases hbx:b=W.pl j
   ·subst hbx;rw [Heap.get?_update_self (fun X=>o') g' (Obj.isFreed_of_fields g3)] at eb;exact (hs₂.2 _ hba).trans (eb▸g1)
   ·rw [Heap.get?_update_ne _ _ _ _ hbx] at eb;exact (hs₂.2 b hba).trans (hk b o hba hbx eb)) rfl rfl (by show _≤h₂.objs.size;rw [sz2,hs₂.1];exact hsz)
 exact ⟨_, .tup [.int k,b],_,S₂.trans S₃,⟨_,_,_,rfl,upd_self, .cons ⟨_,rfl⟩ (.cons (zqC eb e2) .nil)⟩,H⟩
theorem zp0{t:Expr}(eo:h.at_ it = .enumr j k)(ej:h.at_ j = .liter v k)(e:zaY h v=some q)(ex:q.2[k]? = none)(H:K none ((h.set j .other).set it .other)):JN P t it h K:=fun A E Q s W G hr k1 k2=>by
 obtain ⟨old,l,vs,m,ob,hj,g,g',z1,z2,z0,y1,y2,ne⟩:=zdN G hr eo ej e
 refine wpAny_sz (wpAny_pyNext_enum_end (Q:=fun r s'=>s.heap.objs.size≤s'.heap.objs.size→Q r s') G.room.hand g ⟨_,g',z1,z2⟩ ⟨_,y1,rfl,_,rfl⟩ (Array.getElem?_eq_none (y2.size▸List.getElem?_eq_none_iff.mp ex)) fun h' hs hsz=>?_)
 have S₁:Step P.c h.nx W s W (h.set j .other) {s with heap:=h'}:= .set G.rel (k:=j) .other hj (ej▸rfl) (fun l=>nb l) (fun b o e hb=>hs b o hb e) rfl rfl hsz
 exact k1 _ _ _ (S₁.wk (.drop it) (rL _)) H
end
section
variable {T:Tabs} {P:PM T} {W W₁:Wd} {h h₁:Hp} {s s₁:Shared} {A:Around} {E:Value→Shared→Prop} {K:Option AV→Hp→Prop} {x:AV} {n:Nat} {it b:Nat} {z:List Nat} {v:AV} {t:Expr} {p:AV×Nat} {d:FDat×List AV}
theorem zkN(R:Rel P.c W h s)(hb:b<h.nx)(e:(h.at_ b).bound? = some p)(ed:T.defs p.2=some d):Looks (model P.c.prog P.c.w) s.heap (borrowsExactly (.ref (W.pl b))) true:=by
 obtain ⟨ob,k2,sv,rfl,k3⟩:=R.obj hb (AO.bound?_is e) rfl
 obtain ⟨t,o,fd,q1,q2,X⟩:=P.S.fn _ _ _ ed
 refine (Looks.ld (part:=none) k2).andThen ?_
 show Looks _ _ (if (Value.type "method" ==Value.type "method")=true then _ else _) true
 rw [if_pos (by decide)]
 exact (Looks.ld (part:=none) (R.amb.base _ _ q1 t)).andThen (by rw [q2];exact .now)
theorem zeB{f:Value}{Q:Value→Shared→Prop}(h:wpAny (model P.c.prog P.c.w) A (call f []) Q E s):wpAny (model P.c.prog P.c.w) A (callBorrowed f []) Q E s:=fun Γ p hΓ=>by
 have k:=h Γ p hΓ
 unfold PySem.call at k
 rw [Sem.wp_runValue] at k
 unfold callBorrowed
 rw [Sem.wp_call]
 refine wpCode_mono ?_ k
 intro r s' hr
 rcases r with e | (v | _ | _ | _) <;> first | exact hr | exact hr.elim
def citK(it b:Nat)(z:List Nat)(p:AV×Nat)(K:Option AV→Hp→Prop)(r:AV)(h:Hp):Prop:=opt r.str? fun y=>h.at_ it = .citer (.ref b) (.str z) false∧(h.at_ b).bound? = some p∧Br (y==z) (K none (h.set it (.citer .none .none true))) (K (some (.str y)) h)
theorem zp2(eo:h.at_ it = .citer (.ref b) (.str z) false)(eb:(h.at_ b).bound? = some p)(ed:T.defs p.2=some d)(H:za6 P (.ref b) [] [] h (citK it b z p K)):JN P t it h K:=fun A E Q s W G hr k1 k2=>by
 obtain ⟨ob,g,fv,zv,rfl,⟨hb,rfl⟩,k4⟩:=G.rel.obj hr eo rfl
 have hT:s.TypeIs (.ref (W.pl it)) "callable_iterator" :=⟨_,g,rfl⟩
 refine wpAny_sz ?_
 unfold pyNext
 refine wB (wpAny_attempt (wpAny_callSpecial?_slot (name:=Str.ofString "__next__") hT Mine.slot_ci_next
  (wpAny_call_entry Mine.slot_ci_next hT Mine.entry_ci_next ?_ (Mine.args_ci_next _))))
 show wpAny _ _ (field (.ref (W.pl it)) 2>>=_) _ _ s
 refine wB (wpAny_field g rfl (x:= .bool false) rfl ?_)
 show wpAny _ _ (if (Value.bool false==Value.bool true)=true then _ else _) _ _ s
 refine Mine.wIfN (by decide) ?_
 show wpAny _ _ (field (.ref (W.pl it)) 0>>=_) _ _ s
 refine wB (wpAny_field g rfl (x:= .ref (W.pl b)) rfl ?_)
 have hRc:RoomC A.in1 P.n:=⟨G.room.hand,by have:=G.room.depth;show A.depth+_<_;lia,by have:=G.room.units;show A.units+1+_+_<_;lia⟩
 refine wB (wpAny_attempt ?_)
 unfold callOutOfASlot
 refine wB ((zkN G.rel hb eb ed).here ?_)
 refine Mine.wIfP rfl ?_
 refine zeB (wpAny_call (H A.in1 _ _ s W (.ref (W.pl b)) [] [] hRc G.rel ⟨hb,rfl⟩ .nil .nil fun W₁ r rv h₁ s₁ S₁ V₁ H=>H.go fun y e2 H=>?_).2)
 have eo':=H.1
 have eb':=H.2.1
 have H:=H.2.2
 obtain ⟨u,rfl⟩:=(AV.str?_is e2▸V₁:VR _ _ (.str y) rv)
 have hr₁:it<h₁.nx:=lL hr S₁.le.le
 obtain ⟨ob,g',fv',zv',rfl,⟨hb',rfl⟩,zt,rfl⟩:=S₁.rel.obj hr₁ eo' rfl
 rw [S₁.le.pl it hr] at g'
 dsimp only
 show wpAny _ _ (field (.ref (W.pl it)) 2>>=_) _ _ s₁
 refine wB (wpAny_field g' rfl (x:= .bool false) rfl ?_)
 show wpAny _ _ (if (Value.bool false==Value.bool true)=true then _ else _) _ _ s₁
 refine Mine.wIfN (by decide) ?_
 show wpAny _ _ (field (.ref (W.pl it)) 1>>=_) _ _ s₁
 refine wB (wpAny_field g' rfl (x:= .str (strOf z) zt) rfl ?_)
 have cmp:EqAt A.in1 s₁ (.str (strOf z) zt) (.str (strOf y) u) (y==z):=by
  have:=EqAt.str_str (A:=A.in1) (s:=s₁) (strOf z) zt (strOf y) u
  rwa [show (strOf z==strOf y)=(y==z) from strOf_beq.trans (by rw [Bool.beq_comm])] at this
 refine wB (wH (cmp _ _ _ _ ?_))
 refine H.go (fun e H=>?_) fun e H=>?_
 ·rw [e]
  simp only [Bool.not_true,Bool.false_eq_true,if_false]
  refine wB (wpAny_rule (wB ?_))
  show wpAny _ _ (field (.ref (W.pl it)) 0>>=_) _ _ s₁
  refine wB (wpAny_field g' rfl (x:= .ref (W₁.pl b)) rfl (wB ?_))
  have goes:wpAny (model P.c.prog P.c.w) A.in1 (slotLetsGo "callable_iterator.__next__" (.ref (W₁.pl b)) fun | .builtin "callable_iterator.__next__" x=>x.pos.head? == some (.ref (W.pl it)) | _=>false) (fun X s'=>s₁=s') (fun X X=>False) s₁:=by
   unfold slotLetsGo
   refine wB ((zkN S₁.rel hb' eb' ed).here ?_)
   refine Mine.wIfP rfl ?_
   exact wP rfl
  refine wpAny_mono goes (fun X s' q=>?_) fun X X q=>q.elim
  subst q
  refine wpAny_bind (wpAny_setField_rec g' (by simp) fun h1 g1 b1=>?_)
  refine wpAny_bind (wpAny_setField_rec (s:={s₁ with heap:=h1}) g1 (by simp) fun h2 g2 b2=>?_)
  refine wpAny_setField_rec (s:={s₁ with heap:=h2}) g2 (by simp) fun h3 g3 b3=>?_
  have bt:Heap.SameBut (W.pl it) s₁.heap h3:=(b1.trans b2).trans b3
  have S₂:Step P.c h₁.nx W₁ s₁ W₁ (h₁.set it (.citer .none .none true)) {s₁ with heap:=h3}:= .set S₁.rel (k:=it) _ hr₁ (eo'▸rfl) (fun X=>⟨_,S₁.le.pl it hr▸g3, .none, .none,by simp,rfl,rfl⟩) (fun b o eb hb=>(bt.2 b (S₁.le.pl it hr▸hb)).trans eb) rfl rfl (Nat.le_of_eq bt.1.symm)
  exact wpAny_mono (Mine.stop_ok (E:=E) (Q:=fun r s'=>s.heap.objs.size≤s'.heap.objs.size→Q r s') G.room.hand fun h' hk hz X=>k1 _ _ _ ((S₁.trans S₂).trans (.keeps S₂.rel hk rfl rfl hz)) H) (fun X X q=>False.elim q) fun e s' q=>q
 ·rw [e]
  simp only [Bool.not_false,if_true]
  exact wP ⟨_,rfl,wP fun X=>k2 _ _ (zcX g' rfl rfl ⟨_, .str y,_,S₁,⟨u,rfl⟩,H⟩)⟩
theorem zlV{f w:AV}(eo:h.at_ it = .citer f w true)(H:K none h):JN P t it h K:=fun A E Q s W G hr k1 k2=>by
 obtain ⟨ob,g,fv,zv,rfl,X,Z⟩:=G.rel.obj hr eo rfl
 have hT:s.TypeIs (.ref (W.pl it)) "callable_iterator" :=⟨_,g,rfl⟩
 unfold pyNext
 refine wB (wpAny_attempt (wpAny_callSpecial?_slot (name:=Str.ofString "__next__") hT Mine.slot_ci_next
  (wpAny_call_entry Mine.slot_ci_next hT Mine.entry_ci_next ?_ (Mine.args_ci_next _))))
 show wpAny _ _ (field (.ref (W.pl it)) 2>>=_) _ _ s
 refine wB (wpAny_field g rfl (x:= .bool true) rfl ?_)
 show wpAny _ _ (if (Value.bool true==Value.bool true)=true then _ else _) _ _ s
 refine Mine.wIfP (by decide) ?_
 refine wB (wpAny_rule ?_)
 exact wB (wpAny_mono (Mine.stop_ok (E:=E) (Q:=Q) G.room.hand fun h' hk hz=>k1 _ _ _ (.keeps G.rel hk rfl rfl hz) H) (fun X X q=>False.elim q) fun e s' q=>q)
end
section
variable {T:Tabs} {P:PM T} {W W₁:Wd} {h h₁:Hp} {s s₁:Shared} {A:Around} {E:Value→Shared→Prop} {env:Env} {fr:Fr} {pos:Pos} {K:Fl→Hp→Prop} {x:AV} {n it k:Nat} {t i:Expr} {b:List Stmt} {v:AV} {q:Bool×List AV}
def turn(R:Hp→Prop)(K:Fl→Hp→Prop)(x:Fl)(h:Hp):Prop:=Fl.casesOn (motive:=fun X=>Prop) x (R h) (K .next h) (R h) fun v=>K (.ret v) h
structure On(I:Nat→Hp→Prop)(n k:Nat)(h:Hp):Prop where
 go:∃h' j,Wk h h'∧n≤h'.nx∧j<k∧I j h'
theorem ziG{R:Result→Shared→Prop}{I:Nat→Hp→Prop}{S₀:Nat→Shared→Prop}{x:Fl}{f:Flow}{h₀:Hp}(S:Step P.c h₀.nx W s W₁ h₁ s₁)(V:FF W₁ h₁.nx x f)(H:turn (On I h₀.nx k) K x h₁)(go:∀j h',j<k→Step P.c h₀.nx W s W₁ h' s₁→I j h'→S₀ j s₁)(fin:∀y g,FF W₁ h₁.nx y g→K y h₁→R (.ok g) s₁):(match (motive:=Flow→Prop) f with
  | .next | .cont=>∃m,m<k∧S₀ m s₁
  | .brk=>R (.ok .next) s₁
  | .ret v=>R (.ok (.ret v)) s₁):=by
 have on:On I h₀.nx k h₁→∃m,m<k∧S₀ m s₁:=fun ⟨h',j,w,l,q,z⟩=>⟨j,q,go j h' q (S.wk w l) z⟩
 induction x with
 | next=>obtain rfl:f = .next:=V;exact on H
 | cont=>obtain rfl:f = .cont:=V;exact on H
 | brk=>obtain rfl:f = .brk:=V;exact fin .next .next rfl H
 | ret v=>obtain ⟨u,rfl,z⟩:=V;exact fin (.ret v) (.ret u) ⟨u,rfl,z⟩ H
theorem zo6{I:Nat→Hp→Prop}(hb:∀k h',I k h'→JT P fr t h' fun c h'=>Br c (JSs P fr b h' (turn (On I h.nx k) K)) (K .next h'))(H:I k h):JS P fr (.While t b [] pos) h K:=fun A E Q s W env G F kn=>by
 refine wpAny_While (codeAny_whileLoop (fun k s'=>∃W' h',Step P.c h.nx W s W' h' s'∧I k h') ?_ k ⟨W,h, .refl G.rel,H⟩)
 rintro k s₁ ⟨W₁,h₁,S₁,H⟩
 refine hb k h₁ H A _ _ s₁ W₁ env (G.on S₁) (F.up S₁.le) fun W₂ c b h₂ s₂ S₂ V H=>?_
 obtain rfl:b=c:=V
 have S:=S₁.trans S₂
 refine H.go (fun e H'=>?_) fun e H'=>?_
 ·subst e
  exact H' A _ _ s₂ W₂ env (G.on S) (F.up S.le) fun W₃ x f h₃ s₃ S₃ V H=>ziG (R:=fun r s'=>match r with | .ok f=>Q f s' | .error e=>cameBackBy (model P.c.prog P.c.w) A env E e s') (S₀:=fun k s'=>∃W' h',Step P.c h.nx W s W' h' s'∧I k h') (S.trans S₃) V H (fun j h' X S z=>⟨_,_,S,z⟩) fun y g V H=>kn (S.trans S₃) V H
 ·subst e
  exact wpAny_execs_nil (kn (v:= .next) S rfl H')
structure ForJ(P:PM T)(fr:Fr)(t:Expr)(b:List Stmt)(it:Nat)(h:Hp)(K:Fl→Hp→Prop):Prop where
 go:∃(I:Nat→Hp→Prop) (k:Nat),I k h∧∀k h',I k h'→it<h'.nx∧JN P t it h' fun o h'=>Option.casesOn (motive:=fun X=>Prop) o (K .next h') fun x=>JA' P fr t x h' fun X h'=>JSs P fr b h' (turn (On I h.nx k) K)
theorem zsI(hi:zgb i=false)(H:JE P fr i h fun x h=>zmf x h fun v h=>opt v.ref? fun it=>ForJ P fr t b it h K):JS P fr (.For t i b [] pos) h K:=fun A E Q s W env G F kn=>by
 refine wpAny_For (H A E _ s W env G F fun W₁ x vx h₁ s₁ S₁ V₁ H=>zga H A E _ s₁ W₁ vx (G.on S₁) V₁ fun W₂ v itv h₂ s₂ S₂ V₂ H=>H.go fun it e H=>?_) (fun x=>by induction i using cE <;> first | rfl | exact nb hi.symm)
 obtain ⟨hit,rfl⟩:=(AV.ref?_is e▸V₂:VR _ _ (.ref it) itv)
 obtain ⟨I,k,H,hb⟩:=H
 have S₀:=S₁.trans S₂
 refine codeAny_forLoop_any (fun k s'=>∃W' h',Step P.c h₂.nx W₂ s₂ W' h' s'∧I k h') ?_ k ⟨W₂,h₂, .refl S₂.rel,H⟩
 rintro k s₃ ⟨W₃,h₃,S₃,H⟩
 obtain ⟨hi',H⟩:=hb k h₃ H
 have S:=S₀.trans S₃
 rw [←S₃.le.pl it hit]
 refine H A _ _ s₃ W₃ (G.on S) hi' (fun W₄ h₄ s₄ S₄ H=>wpAny_execs_nil (kn (v:= .next) (S.trans S₄) rfl H)) fun v s₄ z=>wpAny_mono z (fun X s₅ z=>?_) fun X X q=>q
 obtain ⟨W₅,x,h₅,S₅,V₅,H⟩:=z
 refine H A _ _ s₅ W₅ (env,v) (G.on S₅) ⟨F.up (S.trans S₅).le,V₅⟩ fun W₆ X X h₆ s₆ S₆ X H=>?_
 have S':=S₃.trans (S₅.trans S₆)
 exact H A _ _ s₆ W₆ env (G.on S₆) (F.up (S₀.trans S').le) fun W₇ x f h₇ s₇ S₇ V H=>ziG (R:=fun r s'=>match r with | .ok f=>Q f s' | .error e=>cameBackBy (model P.c.prog P.c.w) A env E e s') (S₀:=fun k s'=>∃W' h',Step P.c h₂.nx W₂ s₂ W' h' s'∧I k h') (S'.trans S₇) V H (fun j h' X S z=>⟨_,_,S,z⟩) fun y g V H=>kn (S₀.trans (S'.trans S₇)) V H
structure Iter(P:PM T)(t:Expr)(it:Nat)(xs:List AV)(In:Nat→Hp→Prop)(adv:Nat→Hp→Hp)(fin:Hp→Hp):Prop where
 step:∀k x h (K:Option AV→Hp→Prop),xs[k]? = some x→In k h→K (some x) (adv k h)→JN P t it h K
 stop:∀h (K:Option AV→Hp→Prop),In xs.length h→K none (fin h)→JN P t it h K
structure On1(I:Nat→Hp→Prop)(n k:Nat)(h:Hp):Prop where
 go:∃h',Wk h h'∧n≤h'.nx∧I (k+1) h'
theorem zeK{R R':Hp→Prop}{x:Fl}(i:∀h,R h→R' h)(H:turn R K x h):turn R' K x h:=by
 induction x with
 | next | cont=>exact i _ H
 | _=>exact H
theorem ForJ.of{xs:List AV}{In:Nat→Hp→Prop}{adv:Nat→Hp→Hp}{fin:Hp→Hp}(D:Iter P t it xs In adv fin)(I:Nat→Hp→Prop)(h0:I 0 h)(hl:∀k h,I k h→it<h.nx∧In k h)
  (hb:∀k x h',xs[k]? = some x→I k h'→JA' P fr t x (adv k h') fun X h'=>JSs P fr b h' (turn (On1 I h.nx k) K)) (he:∀h,I xs.length h→K .next (fin h)):ForJ P fr t b it h K:=by
 refine ⟨fun m h'=>∃k,k+m=xs.length∧I k h',xs.length,⟨0,Nat.zero_add _,h0⟩,fun m h' z=>z.elim fun k z=>⟨(hl k h' z.2).1,?_⟩⟩
 induction m using Nat.casesOn with
 | zero=>obtain rfl:k=xs.length:=z.1;exact D.stop _ _ (hl _ _ z.2).2 (he _ z.2)
 | succ m=>
  have hk:k<xs.length:=by lia
  exact D.step k _ _ _ (List.getElem?_eq_getElem hk) (hl _ _ z.2).2 ((hb k _ h' (List.getElem?_eq_getElem hk) z.2).mono fun X X H=>J.mono H fun x h H=>zeK (fun h ⟨h',a,b,c⟩=>⟨h',m,a,b,sS _,k+1,by lia,c⟩) H)
theorem zam:Iter P t it q.2 (fun k h=>h.at_ it = .liter v k∧zaY h v=some q) (fun k h=>h.set it (.liter v (k+1))) fun h=>h.set it .other:=
 ⟨fun k x h K e i H=>zoZ i.1 i.2 e H,fun h K i H=>zlU i.1 i.2 (List.getElem?_eq_none (rL _)) H⟩
theorem za2{z:List Nat}:Iter P t it (z.map fun c=> .str [c]) (fun k h=>h.at_ it = .siter z k) (fun k h=>h.set it (.siter z (k+1))) fun h=>h.set it .other:=
 ⟨fun k x h K e i H=>by
  rw [List.getElem?_map] at e
  obtain ⟨c,e1,rfl⟩:=jE e
  exact zoW i e1 H,fun h K i H=>zlR i (List.getElem?_eq_none (by rw [List.length_map];exact rL _)) H⟩
theorem zc1{a c:Int}{m k:Nat}{x:AV}(e:((zci a c m).map AV.int)[k]? = some x):k<m∧x = .int (a+k*c):=by
 rw [List.getElem?_map] at e
 obtain ⟨y,e1,rfl⟩:=jE e
 unfold zci at e1
 rw [List.getElem?_map] at e1
 obtain ⟨j,e2,rfl⟩:=jE e1
 obtain ⟨l,e3⟩:=gE e2
 rw [List.length_range] at l
 exact ⟨l,by rw [←e3,List.getElem_range]⟩
theorem zdG{a c:Int}{m:Nat}:Iter P t it ((zci a c m).map AV.int) (fun k h=>h.at_ it = .riter (a+k*c) ((m:Int)-k) c) (fun k h=>h.set it (.riter (a+((k+1:Nat):Int)*c) ((m:Int)-(k+1:Nat)) c)) fun h=>h.set it .other:=
 ⟨fun k x h K e i H=>by
  obtain ⟨hk,rfl⟩:=zc1 e
  refine zoX i (by lia) ?_
  rw [show a+(k:Int)*c+c=a+((k+1:Nat):Int)*c by push_cast;rw [Int.add_mul];lia,show (m:Int)-k-1=(m:Int)-(k+1:Nat) by lia]
  exact H,fun h K i H=>zlS i (by rw [List.length_map,zci,List.length_map,List.length_range];lia) H⟩
theorem zi9{l:Nat}:Iter P t it q.2.reverse (fun k h=>h.at_ it = .revit l ((q.2.length:Int)-1-k)∧(h.at_ l).list? = some q) (fun k h=>h.set it (.revit l ((q.2.length:Int)-1-(k+1:Nat)))) fun h=>h.set it .other:=
 ⟨fun k x h K e i H=>by
  have hk:k<q.2.length:=by rw [←List.length_reverse];exact (gE e).1
  rw [List.getElem?_reverse hk] at e
  have e1:(q.2.length:Int)-1-k=((q.2.length-1-k:Nat):Int):=by rw [Int.ofNat_sub (Nat.le_sub_one_of_lt hk),Int.ofNat_sub (Nat.succ_le_of_lt (lE (Nat.zero_le k) hk))];rfl
  refine zoY (e1▸i.1) i.2 e ?_
  rw [show ((q.2.length-1-k:Nat):Int)-1=(q.2.length:Int)-1-(k+1:Nat) from e1▸Int.sub_sub ..]
  exact H,fun h K i H=>zlT (i.1.trans (congrArg _ (by rw [List.length_reverse,Int.sub_sub,Int.add_comm,←Int.sub_sub,Int.sub_self];rfl))) H⟩
noncomputable def zte(k:Nat)(b:SV):AV:= .tup [.int k,b]
theorem zf7{es:List Expr}{kk:Nat}{j:Nat}{ys:List SV}(hq:q.2=ys.map SV.av):Iter P (.Tuple es kk pos) it (ys.mapIdx zte) (fun k h=>h.at_ it = .enumr j k∧h.at_ j = .liter v k∧zaY h v=some q) (fun k h=>(h.set j (.liter v (k+1))).set it (.enumr j (k+1))) fun h=>(h.set j .other).set it .other:=
 ⟨fun k x h K e i H=>by
  rw [List.getElem?_mapIdx] at e
  obtain ⟨y,e1,rfl⟩:=jE e
  exact zr6 i.1 i.2.1 i.2.2 (by rw [hq,List.getElem?_map,e1];rfl) (by induction y <;> rfl) H,fun h K i H=>zp0 i.1 i.2.1 i.2.2 (List.getElem?_eq_none (by rw [hq,List.length_map,List.length_mapIdx];exact rL _)) H⟩
end
section
variable {T:Tabs} {P:PM T} {A:Around} {E:Value→Shared→Prop} {s s₁:Shared} {env:Env}
noncomputable abbrev zne(ifs:List Expr)(env:Env):Sem Bool:=forIn ifs true fun c r=>if r=true then do let ok←isTrue c env (eval c env);pure (ForInStep.yield ok) else pure (ForInStep.yield r)
def zl5(M:Model)(A:Around)(E:Value→Shared→Prop)(gens:List Comprehension)(emit:Sem Unit)(e:Expr)(d:Nat)(t:Expr)(ifs:List Expr)(it acc:Value)(env:Env)(Q:Fin→Shared→Prop)(s:Shared):Prop:=
 wpAny M A (pyNext it) (fun r s₁=>match r with
  | none=>Q (.done .next) s₁
  | some v=>wpAny M A (letOwnedTupleGo t it v) (fun X s₂=>wpAny M A (assign t env v) (fun X s₃=>wpAny M A (zne ifs env) (fun ok s₄=>
    if ok=true then (match gens[d+1]? with
     | some g'=>wpAny M A (eval g'.iter env) (fun x s₅=>wpAny M A (pyIter x) (fun it' s₆=>wpAny M A (runOwn (.compStart e (d+1) it' acc env) env) (fun X s₇=>Q (.again (.compLoop e d it acc env)) s₇) E s₆) E s₅) E s₄
     | none=>wpAny M A emit (fun X s₅=>Q (.again (.compLoop e d it acc env)) s₅) E s₄)
    else Q (.again (.compLoop e d it acc env)) s₄) E s₃) E s₂) E s₁) E s
theorem ziH{M:Model}{elt t iter:Expr}{ifs:List Expr}{gens:List Comprehension}{scope:Scope}{pos:Pos}{d:Nat}{it acc:Value}{Q:Fin→Shared→Prop}(hg:gens[d]? = some ⟨t,iter,ifs,0⟩)
  (h0:∀g',gens[d+1]? = some g'→g'.is_async=0∧∀x,foldedSetIterable g'.iter env x=pure x)
  (h:zl5 M A E gens (do let _←call (.builtin "list.append") [acc,←eval elt env]) (.ListComp elt gens scope pos) d t ifs it acc env Q s):wpAny M A (compTurn (.ListComp elt gens scope pos) d it acc env) Q E s:=by
 unfold compTurn
 dsimp only
 rw [hg]
 dsimp only
 refine wB (wpAny_standAt ?_)
 refine wB (wpAny_mono h (fun r s₁ h₁=>?_) fun X X q=>q)
 induction r with
 | none=>exact wP h₁
 | some v=>
  refine wB (wpAny_mono h₁ (fun X s₂ h₂=>wB (wpAny_mono h₂ (fun X s₃ h₃=>wB (wpAny_mono h₃ (fun ok s₄ h₄=>?_) fun X X q=>q)) fun X X q=>q)) fun X X q=>q)
  induction ok with
  | false=>exact wP h₄
  | true=>
   simp only [if_true] at h₄⊢
   induction q:gens[d+1]? with
   | none=>
    rw [q] at h₄
    exact wB (wpAny_mono h₄ (fun X s₅ h₅=>wP h₅) fun X X q=>q)
   | some g'=>
    obtain ⟨a1,a2⟩:=h0 g' q
    rw [q] at h₄
    dsimp only at h₄⊢
    rw [a1]
    refine wB (wpAny_mono h₄ (fun x s₅ h₅=>wB (wpAny_standAt ?_)) fun X X q=>q)
    rw [a2]
    refine wB (wP (wB (wH (wpAny_mono h₅ (fun it' s₆ h₆=>wB (wpAny_mono h₆ (fun X s₇ h₇=>wP h₇) fun X X q=>q)) fun X X q=>q))))
noncomputable def zbS(k v:Expr)(acc:Value)(env:Env):Sem Unit:=do
 let kv←eval k env
 let vv←holding [kv] (eval v env)
 match acc with
 | .ref d=>do
  standAt {k.pos with endLine:=v.pos.endLine,endCol:=v.pos.endCol}
  holding [kv,vv] (dictSet d kv vv)
 | _=>unsupported "internal:dictcomp"
theorem ziI{M:Model}{k v t iter:Expr}{ifs:List Expr}{gens:List Comprehension}{scope:Scope}{pos:Pos}{d:Nat}{it acc:Value}{Q:Fin→Shared→Prop}(hg:gens[d]? = some ⟨t,iter,ifs,0⟩)
  (h0:∀g',gens[d+1]? = some g'→g'.is_async=0∧∀x,foldedSetIterable g'.iter env x=pure x)
  (h:zl5 M A E gens (zbS k v acc env) (.DictComp k v gens scope pos) d t ifs it acc env Q s):wpAny M A (compTurn (.DictComp k v gens scope pos) d it acc env) Q E s:=by
 unfold compTurn
 dsimp only
 rw [hg]
 dsimp only
 refine wB (wpAny_standAt ?_)
 refine wB (wpAny_mono h (fun r s₁ h₁=>?_) fun X X q=>q)
 induction r with
 | none=>exact wP h₁
 | some v=>
  refine wB (wpAny_mono h₁ (fun X s₂ h₂=>wB (wpAny_mono h₂ (fun X s₃ h₃=>wB (wpAny_mono h₃ (fun ok s₄ h₄=>?_) fun X X q=>q)) fun X X q=>q)) fun X X q=>q)
  induction ok with
  | false=>exact wP h₄
  | true=>
   simp only [if_true] at h₄⊢
   induction q:gens[d+1]? with
   | none=>
    rw [q] at h₄
    exact wB (wpAny_mono h₄ (fun X s₅ h₅=>wP h₅) fun X X q=>q)
   | some g'=>
    obtain ⟨a1,a2⟩:=h0 g' q
    rw [q] at h₄
    dsimp only at h₄⊢
    rw [a1]
    refine wB (wpAny_mono h₄ (fun x s₅ h₅=>wB (wpAny_standAt ?_)) fun X X q=>q)
    rw [a2]
    refine wB (wP (wB (wH (wpAny_mono h₅ (fun it' s₆ h₆=>wB (wpAny_mono h₆ (fun X s₇ h₇=>wP h₇) fun X X q=>q)) fun X X q=>q))))
structure CKit(M:Model)(e:Expr)(gens:List Comprehension)(emit:Sem Unit)(acc:Value)(cenv:Env):Prop where
 turn:∀(A:Around) (E:Value→Shared→Prop) (d:Nat) (t iter:Expr) (ifs:List Expr) (it:Value) (Q:Fin→Shared→Prop) (s:Shared),gens[d]? = some ⟨t,iter,ifs,0⟩→zl5 M A E gens emit e d t ifs it acc cenv Q s→wpAny M A (compTurn e d it acc cenv) Q E s
 den:∀(d:Nat) (it:Value),M.den (.compLoop e d it acc cenv)=(compTurn e d it acc cenv).onRaise (fun x=>do noteFrame x cenv;theTreesLotGoes x)
 under:∀(A:Around) (d:Nat) (it:Value),A.under (.compLoop e d it acc cenv)=A
 start:∀(A:Around) (R:Result→Shared→Prop) (d:Nat) (it:Value) (s:Shared) (g:Comprehension),gens[d]? = some g→g.is_async=0→(∀E,wpAny M A (pyIter it) (fun r s'=>r=it∧s'=s) E s)→codeAny M A (.compLoop e d it acc cenv) R s→codeAny M A (.compStart e d it acc cenv) R s
noncomputable def zcu(env:Env):List (Str×NameKind)→List (Str×Addr)→List (Str×Addr)
 | [],acc=>acc
 | (x,k) :: r,acc=>if k == .free then (match env.cells.lookup x with | some a=>zcu env r ((x,a) :: acc) | none=>zcu env r acc) else zcu env r acc
theorem zbh{scope:Scope}(h:∀x,(x,NameKind.free)∈scope.names→∃a,env.cells.lookup x=some a):closureFor scope env=pure (zcu env scope.names []):=by
 unfold closureFor
 generalize ([]:List (Str×Addr))=acc
 have key:∀(names:List (Str×NameKind)) (acc:List (Str×Addr)),(∀x,(x,NameKind.free)∈names→∃a,env.cells.lookup x=some a)→
   (forIn names acc fun (x:Str×NameKind) (r:List (Str×Addr))=>(if (x.2==NameKind.free)=true then do let a←cellOf env x.1;pure (ForInStep.yield ((x.1,a) :: r)) else pure (ForInStep.yield r):Sem (ForInStep (List (Str×Addr)))))=pure (zcu env names acc):=by
  intro names
  induction names with
  | nil=>intro acc h;rw [List.forIn_nil];rfl
  | cons p r ih=>
   intro acc h
   obtain ⟨x,k⟩:=p
   have hr:∀x,(x,NameKind.free)∈r→∃a,env.cells.lookup x=some a:=fun x hx=>h x (mM _ hx)
   rw [List.forIn_cons]
   unfold zcu
   induction q:(k==NameKind.free) with
   | false=>simp only [Bool.false_eq_true,if_false,pure_bind];exact ih acc hr
   | true=>
    have:k = .free:=by simpa using q
    subst this
    obtain ⟨a,ha⟩:=h x mS
    simp only [if_true]
    unfold cellOf
    rw [ha]
    simp only [pure_bind]
    exact ih _ hr
 have:=key scope.names acc h
 simpa using this
theorem ze6{scope:Scope}{cenv:Env}(hs:cenv.scope=relabel scope env){x:Str}{k:NameKind}(h:scope.names.lookup x=some k):cenv.kindOf x=some k∨(k = .free∧cenv.kindOf x=some .cell):=by
 have key:∀(names:List (Str×NameKind)),names.lookup x=some k→(names.map fun (n,k)=>if (k == .free&&env.scope.kind == .function&&env.kindOf n==some .cell) then (n,NameKind.cell) else (n,k)).lookup x=some k∨
   (k = .free∧(names.map fun (n,k)=>if (k == .free&&env.scope.kind == .function&&env.kindOf n==some .cell) then (n,NameKind.cell) else (n,k)).lookup x=some .cell):=by
  intro names
  induction names with
  | nil=>intro h;simp at h
  | cons p r ih=>
   intro h
   obtain ⟨y,l⟩:=p
   rw [List.lookup_cons] at h
   rw [List.map_cons]
   by_cases e:x==y
   ·rw [e] at h
    cases h
    dsimp only
    split
    ·rename_i q
     simp only [Bool.and_eq_true,beq_iff_eq] at q
     right
     refine ⟨q.1.1,?_⟩
     rw [List.lookup_cons,e]
    ·left
     rw [List.lookup_cons,e]
   ·have e':(x==y)=false:=by simpa using e
    rw [e'] at h
    have:=ih h
    dsimp only
    split <;> (rw [List.lookup_cons,e'];exact this)
 unfold Env.kindOf
 rw [hs]
 exact key _ h
theorem zoT{scope:Scope}{globals:Addr}{closure:List (Str×Addr)}{qual:Str}{func:Option Addr}{code:Value}{outer:Env}{b:Addr}{Q:Env→Shared→Prop}
  (h:Q {scope,locals:=s.heap.objs.size,globals,cells:=cellsFrom (s.heap.objs.size+1) scope.names closure,qual,func,code:=outer.code,frame:=outer.frame,builtins:=outer.builtins}
   {s with heap:=pushCells (s.heap.push {cls:= .type "dict",data:= .dict #[]}) scope.names}):
  wpAny (model P.c.prog P.c.w) A (newFunctionEnv scope globals closure [] qual func code (some outer) b) Q E s:=by
 simp only [newFunctionEnv,Option.isSome_some,if_true]
 refine wB (wpAny_alloc ?_)
 refine wB (wpAny_layCells _ (fun name kind cells=>by induction kind <;> rfl) _ _ _ _ ?_)
 rw [List.forIn_nil]
 refine wB (wP (wP ?_))
 rw [show ({s with heap:=s.heap.push {cls:= .type "dict",data:= .dict #[]}}:Shared).heap.objs.size=s.heap.objs.size+1 from Heap.size_push ..]
 exact h
theorem zoS{scope:Scope}{globals:Addr}{closure:List (Str×Addr)}{qual:Str}{func:Option Addr}{code:Value}{b:Addr}{binds:List (Str×Value)}{Q:Env→Shared→Prop}
  (h:∀(env:Env),env = {scope,locals:=s.heap.objs.size,globals,cells:=cellsFrom (s.heap.objs.size+1) scope.names closure,qual,func,code,frame:=some s.heap.objs.size,builtins:=b}→
   wpAny (model P.c.prog P.c.w) A (forIn binds PUnit.unit fun (x:Str×Value) (_:PUnit)=>(do storeName env x.1 x.2;pure (ForInStep.yield PUnit.unit):Sem (ForInStep PUnit))) (fun X=>Q env) E
    {s with heap:=pushCells (s.heap.push {cls:= .type "frame",data:= .dict #[]}) scope.names}):
  wpAny (model P.c.prog P.c.w) A (newFunctionEnv scope globals closure binds qual func code none b) Q E s:=by
 simp only [newFunctionEnv,Option.isSome_none,Bool.false_eq_true,if_false]
 refine wB (wpAny_alloc ?_)
 refine wB (wpAny_layCells _ (fun name kind cells=>by induction kind <;> rfl) _ _ _ _ ?_)
 rw [show ({s with heap:=s.heap.push {cls:= .type "frame",data:= .dict #[]}}:Shared).heap.objs.size=s.heap.objs.size+1 from Heap.size_push ..]
 refine wB (wpAny_mono (h _ rfl) (fun X s' q=>wP q) fun X X q=>q)
def zed(g:Comprehension):Bool:=g.is_async==0 && !zgb g.iter
theorem zcb{e:Expr}(h:(!zgb e)=true)(env:Env)(x:Value):foldedSetIterable e env x=pure x:=by
 induction e using cE <;> first | rfl | exact nb h
theorem zmb{elt:Expr}{gens:List Comprehension}{scope:Scope}{pos:Pos}(hg:gens.all zed=true)(acc:Value)(cenv:Env):
  CKit (model P.c.prog P.c.w) (.ListComp elt gens scope pos) gens (do let _←call (.builtin "list.append") [acc,←eval elt cenv]) acc cenv:=by
 refine ⟨fun A E d t iter ifs it Q s hd h=>ziH hd (fun g' hg'=>?_) h,fun d it=>rfl,fun A d it=>rfl,fun A R d it s g hd ha h0 h=>?_⟩
 ·have:=aI (aT hg g' (mG hg'))
  exact ⟨by simpa using this.1,fun x=>zcb this.2 cenv x⟩
 ·refine codeAny_of_tree ?_
  show wpAny _ A ((compStart (.ListComp elt gens scope pos) d it acc cenv).onRaise (fun x=>do noteFrame x cenv;standAt theWindowsPlace)) _ _ s
  refine wpAny_notedAt ?_
  unfold compStart
  rw [show (clausesOf (.ListComp elt gens scope pos))[d]? = some g from hd,show ((some g:Option Comprehension).elim false (·.is_async != 0))=false from by show (g.is_async != 0)=false;rw [ha];rfl]
  simp only [Bool.false_eq_true,if_false]
  refine wB (wpAny_askSetting ?_)
  split
  ·exact wB (wP (wP (And.intro rfl h)))
  ·exact wB (wpAny_rule (wB (wpAny_standAt (wB (wpAny_mono (h0 _) (fun r s' q=>by obtain ⟨rfl,rfl⟩:=q;exact wP (And.intro rfl h)) fun X X q=>q)))))
theorem zmc{k v:Expr}{gens:List Comprehension}{scope:Scope}{pos:Pos}(hg:gens.all zed=true)(acc:Value)(cenv:Env):
  CKit (model P.c.prog P.c.w) (.DictComp k v gens scope pos) gens (zbS k v acc cenv) acc cenv:=by
 refine ⟨fun A E d t iter ifs it Q s hd h=>ziI hd (fun g' hg'=>?_) h,fun d it=>rfl,fun A d it=>rfl,fun A R d it s g hd ha h0 h=>?_⟩
 ·have:=aI (aT hg g' (mG hg'))
  exact ⟨by simpa using this.1,fun x=>zcb this.2 cenv x⟩
 ·refine codeAny_of_tree ?_
  show wpAny _ A ((compStart (.DictComp k v gens scope pos) d it acc cenv).onRaise (fun x=>do noteFrame x cenv;standAt theWindowsPlace)) _ _ s
  refine wpAny_notedAt ?_
  unfold compStart
  rw [show (clausesOf (.DictComp k v gens scope pos))[d]? = some g from hd,show ((some g:Option Comprehension).elim false (·.is_async != 0))=false from by show (g.is_async != 0)=false;rw [ha];rfl]
  simp only [Bool.false_eq_true,if_false]
  refine wB (wpAny_askSetting ?_)
  split
  ·exact wB (wP (wP (And.intro rfl h)))
  ·exact wB (wpAny_rule (wB (wpAny_standAt (wB (wpAny_mono (h0 _) (fun r s' q=>by obtain ⟨rfl,rfl⟩:=q;exact wP (And.intro rfl h)) fun X X q=>q)))))
end
noncomputable def zdS(n:Nat)(names:List (Str×NameKind))(acc:List (Str×Nat)):List (Str×Nat):=match names with
 | []=>acc
 | p :: r=>byKind p.2 (fun _:Unit=>zdS n r acc) (fun X=>zdS (n+1) r ((p.1,n) :: acc)) (fun X=>zdS n r acc) (fun X=>zdS n r acc) ()
def zcq(h:Hp)(names:List (Str×NameKind)):Hp:=match names with
 | []=>h
 | p :: r=>byKind p.2 (fun _:Unit=>zcq h r) (fun X=>zcq (h.new (.cell none)) r) (fun X=>zcq h r) (fun X=>zcq h r) ()
theorem zex{c:Cx}:∀{names:List (Str×NameKind)} {acc:List (Str×Nat)} {accA:List (Str×Addr)} {W:Wd} {h:Hp} {s:Shared},Rel c W h s→(∀x t,acc.lookup x=some t→t<h.nx∧accA.lookup x=some (W.pl t))→
  ∃W',Step c h.nx W s W' (zcq h names) {s with heap:=pushCells s.heap names}∧∀x t,(zdS h.nx names acc).lookup x=some t→t<(zcq h names).nx∧(cellsFrom s.heap.objs.size names accA).lookup x=some (W'.pl t)
 | [],_,_,W,_,_,R,i=>⟨W, .refl R,i⟩
 | (y,k) :: r,acc,accA,W,h,s,R,i=>by
  induction k with
  | cell=>
   have S₁:Step c h.nx W s (W.put h.nx s.heap.objs.size) (h.new (.cell none)) {s with heap:=s.heap.push {cls:= .type "cell",data:= .cell none}}:= .new R (a:=s.heap.objs.size) (.cell none) (fun X=>⟨_,pZ _ rfl,rfl⟩) (rL _) (R.outside (rL _)) (fun X X e=>pS _ e) rfl rfl
   obtain ⟨W',S,j⟩:=zex (names:=r) (acc:=(y,h.nx) :: acc) (accA:=(y,s.heap.objs.size) :: accA) S₁.rel (fun x t e=>by
    rw [List.lookup_cons] at e⊢
    induction q:x==y with
    | true=>rw [q] at e;obtain rfl:=sI e;exact ⟨sS _,congrArg some upd_self.symm⟩
    | false=>rw [q] at e;exact (i x t e).imp Nat.lt_succ_of_lt fun z=>z.trans (congrArg some (S₁.le.pl t (i x t e).1).symm))
   rw [show ({s with heap:=s.heap.push {cls:= .type "cell",data:= .cell none}}:Shared).heap.objs.size=s.heap.objs.size+1 from Heap.size_push ..] at j
   exact ⟨W',S₁.trans S,j⟩
  | _=>exact zex (names:=r) R i
section
variable {T:Tabs} {P:PM T} {W W₁:Wd} {h h₁:Hp} {s s₁:Shared} {A:Around} {E:Value→Shared→Prop} {env:Env} {fr:Fr} {sc:Scope} {cl:List (Str×Nat)} {clA:List (Str×Addr)} {cls:String}
def zbq(h:Hp)(sc:Scope):Hp:=zcq (h.new (.frame [])) sc.names
def zb4(h:Hp)(sc:Scope)(cl:List (Str×Nat))(tab:Option (Nat×Nat×Nat)):Fr:=⟨sc,h.nx,zdS (h.nx+1) sc.names cl,tab⟩
theorem zhh(R:Rel P.c W h s)(i:∀x t,cl.lookup x=some t→t<h.nx∧clA.lookup x=some (W.pl t)):∃W',Step P.c h.nx W s W' (zbq h sc) {s with heap:=pushCells (s.heap.push {cls:= .type cls,data:= .dict #[]}) sc.names}∧
  ∀(env:Env) (tab:Option (Nat×Nat×Nat)),env.scope.kind = .function→(∀x k,sc.names.lookup x=some k→env.kindOf x=some k∨(k = .free∧env.kindOf x=some .cell))→env.locals=s.heap.objs.size→env.globals=P.c.G→env.builtins=0→env.cells=cellsFrom (s.heap.objs.size+1) sc.names clA→
   (∀t l k,tab=some (t,l,k)→t∈P.c.tabs∧P.c.tinfo t=(l,k)∧∃a,env.code = .ref a∧a∉P.c.tabs∧P.c.B.TableAt a t #[]∧P.c.B.IsCode a t #[])→FrAt P.c W' (zbq h sc).nx env (zb4 h sc cl tab):=by
 have S₁:Step P.c h.nx W s (W.put h.nx s.heap.objs.size) (h.new (.frame [])) {s with heap:=s.heap.push {cls:= .type cls,data:= .dict #[]}}:= .new R (a:=s.heap.objs.size) (.frame []) (fun X=>⟨_,pZ _ rfl, #[],0,rfl,fun e he=>absurd he (Array.not_mem_empty _),fun x v e=>no e⟩) (rL _) (R.outside (rL _)) (fun X X e=>pS _ e) rfl rfl
 obtain ⟨W',S,j⟩:=zex (names:=sc.names) (acc:=cl) (accA:=clA) S₁.rel fun x t e=>(i x t e).imp Nat.lt_succ_of_lt fun z=>z.trans (congrArg some (S₁.le.pl t (i x t e).1).symm)
 rw [show ({s with heap:=s.heap.push {cls:= .type cls,data:= .dict #[]}}:Shared).heap.objs.size=s.heap.objs.size+1 from Heap.size_push ..] at j
 exact ⟨W',S₁.trans S,fun env tab e0 e1 e2 e3 e4 e5 e6=>⟨e0,e1,e3,e4,⟨S.le.le,e2.trans ((S.le.pl h.nx (sS _)).trans upd_self).symm⟩,fun x t e=>(j x t e).imp id fun z=>e5▸z,e6⟩⟩
noncomputable def zbf(cel:List (Str×Nat))(names:List (Str×NameKind))(acc:List (Str×Nat)):List (Str×Nat):=match names with
 | []=>acc
 | p :: r=>byKind p.2 (fun _:Unit=>zbf cel r acc) (fun X=>zbf cel r acc) (fun X=>Option.casesOn (motive:=fun X=>List (Str×Nat)) (cel.lookup p.1) (zbf cel r acc) fun t=>zbf cel r ((p.1,t) :: acc)) (fun X=>zbf cel r acc) ()
noncomputable def zdL(cel:List (Str×Nat))(names:List (Str×NameKind)):Bool:=names.all fun p=>byKind p.2 true true (cel.lookup p.1).isSome true
theorem zep{c:Cx}(F:FrAt c W h.nx env fr):∀{names:List (Str×NameKind)} {acc:List (Str×Nat)} {accA:List (Str×Addr)},zdL fr.cel names=true→(∀x t,acc.lookup x=some t→t<h.nx∧accA.lookup x=some (W.pl t))→
  ∀x t,(zbf fr.cel names acc).lookup x=some t→t<h.nx∧(zcu env names accA).lookup x=some (W.pl t)
 | [],_,_,_,i=>i
 | (y,k) :: r,acc,accA,e,i=>by
  have e:=aI (show (byKind k true true (fr.cel.lookup y).isSome true&&zdL fr.cel r)=true from e)
  induction k with
  | free=>
   obtain ⟨t,et⟩:=iE e.1
   have z:=F.cells y t et
   unfold zcu
   rw [if_pos (by rfl),z.2]
   show∀x t',(Option.casesOn (motive:=fun X=>List (Str×Nat)) (fr.cel.lookup y) (zbf fr.cel r acc) fun t=>zbf fr.cel r ((y,t) :: acc)).lookup x=some t'→_
   rw [et]
   exact zep F e.2 fun x t' q=>by
    rw [List.lookup_cons] at q⊢
    induction q':x==y with
    | true=>rw [q'] at q;obtain rfl:=sI q;exact ⟨z.1,rfl⟩
    | false=>rw [q'] at q;exact i x t' q
  | _=>exact zep (names:=r) F e.2 i
end
section
variable {T:Tabs} {P:PM T} {W W₁:Wd} {h h₁:Hp} {s s₁:Shared} {A:Around} {E:Value→Shared→Prop} {env cenv:Env} {fr:Fr} {e:Expr} {gens:List Comprehension} {emit:Sem Unit} {acc:Value} {a it:Nat} {inner:Hp→(Hp→Prop)→Prop} {pos:Pos}
def zpZ(P:PM T)(fr:Fr)(ifs:List Expr)(h:Hp)(K:Bool→Hp→Prop):Prop:=J P (FI P fr) BB (fun env=>zne ifs env) h K
theorem zpV{K:Bool→Hp→Prop}(H:K true h):zpZ P fr [] h K:=fun A E Q s W env G F kn=>wP (kn (v:=true) (.refl G.rel) rfl H)
theorem zgy{M:Model}{Q:Bool→Shared→Prop}(q:Q false s):∀l:List Expr,wpAny M A (forIn l false fun c r=>if r=true then do let ok←isTrue c env (eval c env);Pure.pure (ForInStep.yield ok) else Pure.pure (ForInStep.yield r)) Q E s
 | []=>by rw [List.forIn_nil];exact wP q
 | x :: l=>by rw [List.forIn_cons,if_neg (by decide)];exact wB (wP (zgy q l))
theorem zn1{K:Bool→Hp→Prop}{r:List Expr}(H:JT P fr e h fun b h=>Br b (zpZ P fr r h K) (K false h)):zpZ P fr (e :: r) h K:=fun A E Q s W env G F kn=>by
 show wpAny _ A (forIn (e :: r) true _) _ E s
 rw [List.forIn_cons,if_pos rfl]
 refine wB (wB (H A E _ s W env G F fun X c b X X S V H=>wP ?_))
 obtain rfl:b=c:=V
 exact H.go (fun e H'=>by subst e;exact H' A E Q _ _ env (G.on S) (F.up S.le) (kn.after S)) fun e H'=>by subst e;exact zgy (kn (v:=false) S rfl H') r
structure GJ(P:PM T)(fr:Fr)(t:Expr)(ifs:List Expr)(inner:Hp→(Hp→Prop)→Prop)(it:Nat)(h:Hp)(K:Hp→Prop):Prop where
 go:∃(I:Nat→Hp→Prop) (k:Nat),I k h∧∀k h',I k h'→it<h'.nx∧JN P t it h' fun o h'=>Option.casesOn (motive:=fun X=>Prop) o (K h') fun x=>
 JA' P fr t x h' fun X h'=>zpZ P fr ifs h' fun ok h'=>Br ok (inner h' (On I h.nx k)) (On I h.nx k h')
def zgf(P:PM T)(fr:Fr)(emit:Hp→(Hp→Prop)→Prop):List Comprehension→Hp→(Hp→Prop)→Prop
 | [],h,K=>emit h K
 | g :: r,h,K=>JE P fr g.iter h fun x h=>zmf x h fun v h=>opt v.ref? fun it=>req (zny (h.at_ it)) (GJ P fr g.target g.ifs (zgf P fr emit r) it h K)
def zhF(P:PM T)(fr:Fr)(emit:Sem Unit)(cenv:Env)(acc:Value)(a:Nat)(emitD:Hp→(Hp→Prop)→Prop):Prop:=∀(A:Around) (E:Value→Shared→Prop) (s:Shared) (W:Wd) (h:Hp) (K:Hp→Prop) (R:Shared→Prop),
 Go P W h s A→FrAt P.c W h.nx cenv fr→VR W h.nx (.ref a) acc→emitD h K→(∀W' h' s',Step P.c h.nx W s W' h' s'→K h'→R s')→wpAny (model P.c.prog P.c.w) A emit (fun X=>R) E s
def zl7(P:PM T)(fr:Fr)(e:Expr)(gens:List Comprehension)(emit:Sem Unit)(cenv:Env)(acc:Value)(a d:Nat)(inner:Hp→(Hp→Prop)→Prop):Prop:=∀(A:Around) (E:Value→Shared→Prop) (s:Shared) (W:Wd) (h:Hp) (K:Hp→Prop) (R:Shared→Prop),
 Go P W h s A→FrAt P.c W h.nx cenv fr→VR W h.nx (.ref a) acc→inner h K→(∀W' h' s',Step P.c h.nx W s W' h' s'→K h'→R s')→match gens[d+1]? with
  | some g'=>wpAny (model P.c.prog P.c.w) A (eval g'.iter cenv) (fun x s₅=>wpAny (model P.c.prog P.c.w) A (pyIter x) (fun it' s₆=>wpAny (model P.c.prog P.c.w) A (runOwn (.compStart e (d+1) it' acc cenv) cenv) (fun X s₇=>R s₇) E s₆) E s₅) E s
  | none=>wpAny (model P.c.prog P.c.w) A emit (fun X s₅=>R s₅) E s
theorem zf3(Kt:CKit (model P.c.prog P.c.w) e gens emit acc cenv){d:Nat}{t iter:Expr}{ifs:List Expr}(hgd:gens[d]? = some ⟨t,iter,ifs,0⟩)(IN:zl7 P fr e gens emit cenv acc a d inner){R:Result→Shared→Prop}{K:Hp→Prop}
  (G:Go P W h s A) (F:FrAt P.c W h.nx cenv fr) (V:VR W h.nx (.ref a) acc) (hit:it<h.nx) (H:GJ P fr t ifs inner it h K) (fin:∀W' h' s',Step P.c h.nx W s W' h' s'→K h'→R (.ok .next) s'):codeAny (model P.c.prog P.c.w) A (.compLoop e d (.ref (W.pl it)) acc cenv) R s:=by
 obtain ⟨I,k,H,hb⟩:=H
 refine codeAny_loop (by induction e using cE <;> rfl) (fun k s'=>∃W' h',Step P.c h.nx W s W' h' s'∧I k h') ?_ k ⟨W,h, .refl G.rel,H⟩
 rintro k s₁ ⟨W₁,h₁,S₁,H⟩
 rw [Kt.den,Kt.under]
 refine wpAny_noted (Kt.turn _ _ _ _ _ _ _ _ _ hgd ?_)
 obtain ⟨hi',H⟩:=hb k h₁ H
 show wpAny _ _ (pyNext (.ref (W.pl it))) _ _ s₁
 rw [←S₁.le.pl it hit]
 refine H A _ _ s₁ W₁ (G.on S₁) hi' (fun W₂ h₂ s₂ S₂ H=>fin _ _ _ (S₁.trans S₂) H) fun v s₂ z=>wpAny_mono z (fun X s₃ z=>?_) fun X X q=>q
 obtain ⟨W₃,x,h₃,S₃,V₃,H⟩:=z
 refine H A _ _ s₃ W₃ (cenv,v) (G.on S₃) ⟨F.up (S₁.trans S₃).le,V₃⟩ fun W₄ X X h₄ s₄ S₄ X H=>H A _ _ s₄ W₄ cenv (G.on S₄) (F.up (S₁.trans (S₃.trans S₄)).le) fun W₅ c ok h₅ s₅ S₅ V₅ H=>?_
 have S:=S₁.trans (S₃.trans (S₄.trans S₅))
 obtain rfl:ok=c:=V₅
 have on:∀{W' h' s'},Step P.c h.nx W s W' h' s'→On I h.nx k h'→∃m,m<k∧∃W' h',Step P.c h.nx W s W' h' s'∧I m h':=fun S ⟨h',j,w,l,q,z⟩=>⟨j,q,_,h',S.wk w l,z⟩
 refine H.go (fun e H'=>?_) fun e H'=>?_
 ·subst e
  exact IN A _ s₅ W₅ h₅ _ _ (G.on S) (F.up S.le) (V.up S.le) H' fun W₆ h₆ s₆ S₆ H=>⟨by first | trivial | rfl,on (S.trans S₆) H⟩
 ·subst e
  exact ⟨by first | trivial | rfl,on S H'⟩
theorem zhc(Kt:CKit (model P.c.prog P.c.w) e gens emit acc cenv){emitD:Hp→(Hp→Prop)→Prop}(EM:zhF P fr emit cenv acc a emitD):∀(rest:List Comprehension) (d:Nat),gens.drop (d+1)=rest→rest.all zed=true→zl7 P fr e gens emit cenv acc a d (zgf P fr emitD rest)
 | [],d,hd,hg=>fun A E s W h K R G F V H q=>by
  have hgn:gens[d+1]? = none:=by rw [←Nat.add_zero (d+1),←List.getElem?_drop,hd];rfl
  rw [hgn]
  exact EM A E s W h K R G F V H q
 | ⟨t,iter,ifs,z⟩ :: rest,d,hd,hg=>fun A E s W h K R G F V H q=>by
  obtain ⟨h1,h2⟩:=aI (show (zed ⟨t,iter,ifs,z⟩ && rest.all zed)=true from hg)
  obtain rfl:z=0:=eq_of_beq (aI h1).1
  have hgn:gens[d+1]? = some ⟨t,iter,ifs,0⟩:=by rw [←Nat.add_zero (d+1),←List.getElem?_drop,hd];rfl
  have hd':gens.drop (d+1+1)=rest:=by rw [←List.drop_drop,hd];rfl
  rw [hgn]
  refine H A E _ s W cenv G F fun W₁ x vx h₁ s₁ S₁ V₁ H=>zga H A E _ s₁ W₁ vx (G.on S₁) V₁ fun W₂ v itv h₂ s₂ S₂ V₂ H=>H.go fun it e1 H=>H.go fun e2 H=>?_
  obtain ⟨hit,rfl⟩:=(AV.ref?_is e1▸V₂:VR _ _ (.ref it) itv)
  have S:=S₁.trans S₂
  refine wpAny_runOwn (Kt.start _ _ _ _ _ _ hgn rfl (fun E=>zeD S₂.rel hit e2 ⟨rfl,rfl⟩) ?_)
  exact zf3 Kt hgn (zhc Kt EM rest (d+1) hd' h2) (G.on S) (F.up S.le) (V.up S.le) hit H fun W₃ h₃ s₃ S₃ H=>q _ _ _ (S.trans S₃) H
end
section
variable {T:Tabs} {P:PM T} {W W₁:Wd} {h h₁:Hp} {s s₁:Shared} {A:Around} {E:Value→Shared→Prop} {env cenv:Env} {fr:Fr} {e:Expr} {acc:Value} {a it k:Nat} {pos:Pos} {c:Cx} {v:AV} {val:Value} {xs:List SV}
theorem Step.frzL(R:Rel c W h s)(hk:k<h.nx)(e:h.at_ k = .list false (xs.map SV.av)):∃W',Step c h.nx W s W' (h.set k .other) s∧∃vs m,W'.fz (W.pl k)=some (zbY "list" vs m)∧Rs SR xs vs.toList:=by
 have l0:(h.at_ k).live=true:=e▸rfl
 obtain ⟨b0,ob,g,vs,m,rfl,r⟩:=(e▸R.at_ k hk:OAt _ _ _ _ _ (.list false _)) rfl
 have fz:∀b o,W.fz b=some o→b≠W.pl k:=fun b o e q=>(R.fz b o e).2.2 k hk l0 q.symm
 have L:Le h.nx W h.nx ⟨W.pl,upd W.fz (W.pl k) (some (zbY "list" vs m))⟩:=⟨rL _,fun X X=>rfl,fun b o e=>(zae (fz b o e)).trans e⟩
 have lv:∀j,((h.set k .other).at_ j).live=true→j≠k∧(h.at_ j).live=true∧(h.set k .other).at_ j=h.at_ j:=fun j l=>by
  by_cases q:j=k
  ·subst q;rw [show (h.set j .other).at_ j = .other from upd_self] at l;exact nb l
  ·rw [show (h.set k .other).at_ j=h.at_ j from zae q] at l⊢;exact ⟨q,l,rfl⟩
 refine ⟨⟨W.pl,upd W.fz (W.pl k) (some (zbY "list" vs m))⟩,⟨⟨fun j q u=>?_,fun i j p q u w e=>R.apart i j p q (lv i u).2.1 (lv j w).2.1 e,fun b o e=>?_,R.amb.step (fun X X X e=>e) L.fz rfl rfl⟩,L,rL _,fun X a b=>absurd a (Nat.not_le_of_lt b),fun b o e=>?_,fun b o e X X=>e⟩,vs,m,upd_self,?_⟩
 ·rw [(lv j u).2.2]
  exact (R.at_ j q (lv j u).2.1).imp id fun ⟨o,h1,h2⟩=>⟨o,h1,h2.up L⟩
 ·by_cases q:b=W.pl k
  ·subst q
   obtain rfl:=sI (upd_self.symm.trans e)
   exact ⟨b0,g,fun j p u z=>(lv j u).1 (R.apart j k p hk (lv j u).2.1 l0 z)⟩
  ·have e:=(zae q).symm.trans e
   exact ⟨(R.fz b o e).1,(R.fz b o e).2.1,fun j p u=>(R.fz b o e).2.2 j p (lv j u).2.1⟩
 ·by_cases q:b=W.pl k
  ·exact .inr (.inr ⟨k,hk,q.symm⟩)
  ·exact .inl ((zae q).symm.trans e)
 ·clear e l0 lv
  generalize vs.toList=l at r
  induction xs generalizing l with
  | nil=>cases r;exact .nil
  | cons x xs ih=>cases r with | cons p q=>exact .cons (by cases x <;> exact p) (ih _ q)
inductive frz(v:AV)(h:Hp)(K:AV→Hp→Prop):Prop
 | as (H:K v h)
 | fz (k:Nat) (xs:List SV) (e:v = .ref k) (e2:h.at_ k = .list false (xs.map SV.av)) (H:K (.lst xs) (h.set k .other))
theorem zhg{K:AV→Hp→Prop}(H:frz v h K)(R:Rel c W h s)(V:VR W h.nx v val):∃W' v' h',Step c h.nx W s W' h' s∧VR W' h'.nx v' val∧K v' h':=by
 rcases H with H | ⟨k,xs,rfl,e,H⟩
 ·exact ⟨W,v,h, .refl R,V,H⟩
 ·obtain ⟨hk,rfl⟩:=V
  obtain ⟨W',S,vs,m,z,r⟩:=Step.frzL R hk e
  exact ⟨W', .lst xs,_,S,⟨_,vs,m,rfl,z,r⟩,H⟩
def zuG(a:Nat)(v:AV)(h:Hp):Tr Unit:= .os (h.at_ a).list? fun q=> .Rq (Nat.ble q.2.length.succ sizeL&&(q.1 || tf v)) (.ret () (h.set a (.list q.1 (q.2 ++ [v]))))
def ztT(a:Nat)(v:AV)(h:Hp)(K:Hp→Prop):Prop:=frz v h fun v h=>(zuG a v h).sem fun X h=>K h
def zkk(P:PM T)(elt:Expr)(fr:Fr)(a:Nat)(h:Hp)(K:Hp→Prop):Prop:=JE P fr elt h fun v h=>ztT a v h K
theorem zmz{elt:Expr}:zhF P fr (do let _←call (.builtin "list.append") [acc,←eval elt cenv]) cenv acc a (zkk P elt fr a):=fun A E s W h K R G F V H q=>by
 refine wB (H A E _ s W cenv G F fun W₁ v val h₁ s₁ S₁ V₁ H=>?_)
 obtain ⟨W₂,v',h₂,S₂,V₂,H⟩:=zhg H S₁.rel V₁
 obtain ⟨ha,rfl⟩:=V.up (S₁.trans S₂).le
 exact H.go fun p e H=>H.go fun c H=>wB (zfE (P:=P) (as:= [.ref a,v']) (p:=(.ref a,v')) (r:=a) (q:=p) (K:=fun X h'=>K h') rfl rfl e c H A E _ s₁ W₂ [_,val] ((G.on S₁).on S₂) (.cons ⟨ha,rfl⟩ (.cons V₂ .nil)) fun X X X X X S X H=>wP (q _ _ _ ((S₁.trans S₂).trans S) H))
end
section
variable {T:Tabs} {P:PM T} {W W₁:Wd} {h h₁:Hp} {s s₁:Shared} {A:Around} {E:Value→Shared→Prop} {env cenv:Env} {fr:Fr} {e:Expr} {acc:Value} {a it k:Nat} {pos:Pos} {c:Cx} {x:AV} {v:Value} {z:List Nat} {kt:Tok}
def zs5(a:Nat)(kv x:AV)(h:Hp):Tr Unit:= .os kv.str? fun z=> .os (h.at_ a).dict? fun p=> .Rq (Nat.ble p.2.length.succ sizeL&&(p.1 || tf x)) (.ret () (h.set a (.dict p.1 (zcj p.2 z x))))
def addD(a:Nat)(kv x:AV)(h:Hp)(K:Hp→Prop):Prop:=(zs5 a kv x h).sem fun X h=>K h
theorem zio{p:Bool×List (List Nat×AV)}{Q:Unit→Shared→Prop}(R:Rel P.c W h s)(ha:a<h.nx)(e:(h.at_ a).dict? = some p)(hz:(Nat.ble p.2.length.succ sizeL&&(p.1 || tf x))=true)(V:VR W h.nx x v)
  (q:∀s',Step P.c h.nx W s W (h.set a (.dict p.1 (zcj p.2 z x))) s'→Q () s'):wpAny (model P.c.prog P.c.w) A (dictSet (W.pl a) (.str (strOf z) kt) v) Q E s:=by
 obtain ⟨hz,hv⟩:=aI hz
 obtain ⟨ob,h2,ds,m,rfl,h3,h4,h5⟩:=R.obj ha (AO.dict?_is e) rfl
 have hkey:(PySem.strKind P.c.prog P.c.w).is (strOf z) (.str (strOf z) kt)=true:=by simp [PySem.strKind,Value.isStrOf]
 have hk:KeysOf (PySem.strKind P.c.prog P.c.w) ds:=by
  obtain ⟨o,es,ep,q1,q2,q3,q4,q5⟩:=zre (P:=P) h2 h3
  obtain rfl:=sI (h2.symm.trans q1)
  obtain ⟨rfl,rfl⟩:=Data.dict.inj q3
  exact q4
 have hp:=ER.put (n:=z) (t:=kt) h3 (ziK hv V)
 have hfind:=putL_find (strOf z) (PyData.keyHash P.c.w.params (strOf z)) (.str (strOf z) kt) v ds.toList
 have hidx:(ds.findIdx? fun e=>(PySem.strKind P.c.prog P.c.w).is (strOf z) e.key)=ds.toList.findIdx? (fun x=>x.key.isStr (strOf z)):=by
  obtain ⟨l⟩:=ds
  rw [show (fun e:DictEntry=>(PySem.strKind P.c.prog P.c.w).is (strOf z) e.key)=fun x=>x.key.isStr (strOf z) from funext fun e=>by induction e.key <;> rfl];simp
 unfold dictSet
 refine wH (wB ((PySem.strKind P.c.prog P.c.w).pyHash hkey ?_))
 unfold dictSetHashed
 refine wH (wB (wpAny_dictFind_of (s:={s with toks:=s.toks+1}) hkey h2 rfl hk ?_))
 have pd:=zfZ (n:=z) (x:=x) (es:=p.2)
 have fin:∀(ds':List DictEntry) (m':Nat) (f:Obj→Obj),f {cls:= .type "dict",data:= .dict ds m} = {cls:= .type "dict",data:= .dict ds'.toArray m'}→ds'=putL (strOf z) (PyData.keyHash P.c.w.params (strOf z)) (.str (strOf z) kt) v ds.toList→Q () {s with heap:=s.heap.update (W.pl a) f,toks:=s.toks+1}:=fun ds' m' f e2 e3=>by
  subst e3
  exact q _ (.set (s':={s with heap:=s.heap.update (W.pl a) f,toks:=s.toks+1}) R (k:=a) (.dict p.1 (zcj p.2 z x)) ha (AO.dict?_is e▸rfl) (fun X=>⟨_,(Heap.get?_update_self _ h2 (by rw [e2];rfl)).trans (congrArg some e2),_,_,rfl,hp,pd.1 h4,fun q=>absurd q pd.2.2⟩) (fun b o eb hb=>(Heap.get?_update_ne _ _ _ _ hb).trans eb) rfl rfl (Nat.le_of_eq (upd_size _ _ _).symm))
 rw [hidx]
 induction hi:ds.toList.findIdx? (fun x=>x.key.isStr (strOf z)) with
 | some i=>
  rw [hi] at hfind
  refine wB (wpAny_rule (wB (wpAny_updateDict (s:={s with toks:=s.toks+1}) h2 rfl (wpAny_point (fin _ m _ ?_ hfind)))))
  obtain ⟨l⟩:=ds
  simp [Obj.mapDict]
 | none=>
  rw [hi] at hfind
  refine wB (wpAny_rule (wpAny_updateDictKeys (s:={s with toks:=s.toks+1}) h2 rfl (fin _ (m+1) _ ?_ hfind) (by rw [←Array.length_toList,←h3.len];exact Nat.le_of_succ_le (ble hz))))
  obtain ⟨l⟩:=ds
  simp only [Obj.mapDictKeys]
  congr 2
  simp
  rfl
def zfk(P:PM T)(kx vx:Expr)(fr:Fr)(a:Nat)(h:Hp)(K:Hp→Prop):Prop:=JE P fr kx h fun k h=>JE P fr vx h fun v h=>addD a k v h K
theorem zkl{kx vx:Expr}:zhF P fr (zbS kx vx acc cenv) cenv acc a (zfk P kx vx fr a):=fun A E s W h K R G F V H q=>by
 unfold zbS
 refine wB (H A E _ s W cenv G F fun W₁ kv kval h₁ s₁ S₁ V₁ H=>wB (wH (H A E _ s₁ W₁ cenv (G.on S₁) (F.up S₁.le) fun W₂ x val h₂ s₂ S₂ V₂ H=>H.go fun z e H=>H.go fun p e1 H=>H.go fun c H=>?_)))
 obtain ⟨ha,rfl⟩:=V.up (S₁.trans S₂).le
 obtain ⟨kt,rfl⟩:=(AV.str?_is e▸V₁.up S₂.le:VR _ _ (.str z) kval)
 exact wB (wpAny_standAt (wH (zio S₂.rel ha e1 c V₂ fun s' S=>q _ _ _ ((S₁.trans S₂).trans S) H)))
noncomputable def zc5(sc:Scope):Bool:=sc.kind == .function&&decide ((sc.names.map (·.1)).Nodup)
def zpE(P:PM T)(fr:Fr)(iter t:Expr)(ifs:List Expr)(rest:List Comprehension)(sc:Scope)(o:AO)(emitD:Fr→Nat→Hp→(Hp→Prop)→Prop)(h:Hp)(K:AV→Nat→Hp→Prop):Prop:=JE P fr iter h fun x h=>zmf x h fun v h=>opt v.ref? fun it=>req (zny (h.at_ it))
 (GJ P (zb4 (h.new o) sc (zbf fr.cel sc.names []) none) t ifs (zgf P (zb4 (h.new o) sc (zbf fr.cel sc.names []) none) (emitD (zb4 (h.new o) sc (zbf fr.cel sc.names []) none) h.nx) rest) it (zbq (h.new o) sc) (K (.ref h.nx) (h.nx+1)))
def zgs(P:PM T)(W:Wd)(h:Hp)(s:Shared)(K:AV→Nat→Hp→Prop)(acc:Value)(C:Addr)(s':Shared):Prop:=∃W' h' v L,Step P.c h.nx W s W' h' s'∧VR W' h'.nx v acc∧h.nx≤L∧L<h'.nx∧W'.pl L=C∧K v L h'
def JC(P:PM T)(fr:Fr)(e:Expr)(h:Hp)(K:AV→Nat→Hp→Prop):Prop:=∀(A:Around) (E:Value→Shared→Prop) (s:Shared) (W:Wd) (env:Env) (Q:Value→Shared→Prop),Go P W h s A→FrAt P.c W h.nx env fr→
 ((∀acc C s',zgs P W h s K acc C s'→compPost (model P.c.prog P.c.w) A E none Q acc C (.ok .next) s')→wpAny (model P.c.prog P.c.w) A (eval e env) Q E s)∧
 ∀(u:Value→Sem Unit),(∀acc C s',zgs P W h s K acc C s'→compPost (model P.c.prog P.c.w) A E (some u) Q acc C (.ok .next) s')→wpAny (model P.c.prog P.c.w) A (evalThenUse e env u) (fun X s'=>∃v,Q v s') E s
theorem zdD{x:Str}{k:NameKind}:∀{l:List (Str×NameKind)},(l.map (·.1)).Nodup→(x,k)∈l→l.lookup x=some k
 | [],_,h=>absurd h List.not_mem_nil
 | p :: r,hd,hx=>by
  rw [List.map_cons,List.nodup_cons] at hd
  rw [List.lookup_cons]
  rcases cP hx with q | q
  ·rw [←q];simp
  ·rw [show (x==p.1)=false from beq_eq_false_iff_ne.mpr fun e=>hd.1 (e▸mR ⟨_,q,rfl⟩)];exact zdD hd.2 q
theorem zfm{t iter:Expr}{ifs:List Expr}{rest:List Comprehension}{sc:Scope}{newAcc:Sem Value}{emit:Value→Env→Sem Unit}{o:AO}{emitD:Fr→Nat→Hp→(Hp→Prop)→Prop}{use:Option (Value→Sem Unit)}{Q:Value→Shared→Prop}{K:AV→Nat→Hp→Prop}
  (hcl:clausesOf e = ⟨t,iter,ifs,0⟩ :: rest) (hsc:zc5 sc=true) (hg:(!zgb iter&&rest.all zed)=true) (hf:zdL fr.cel sc.names=true)
  (hnew:∀{W:Wd} {h:Hp} {s:Shared} {Q:Value→Shared→Prop},Rel P.c W h s→(∀W' s' val,Step P.c h.nx W s W' (h.new o) s'→VR W' (h.nx+1) (.ref h.nx) val→Q val s')→wpAny (model P.c.prog P.c.w) A newAcc Q E s)
  (KT:∀acc cenv,CKit (model P.c.prog P.c.w) e (⟨t,iter,ifs,0⟩ :: rest) (emit acc cenv) acc cenv) (EM:∀(fr:Fr) (a:Nat) (acc:Value) (cenv:Env),zhF P fr (emit acc cenv) cenv acc a (emitD fr a))
  (G:Go P W h s A) (F:FrAt P.c W h.nx env fr) (H:zpE P fr iter t ifs rest sc o emitD h K) (hQ:∀acc C s',zgs P W h s K acc C s'→compPost (model P.c.prog P.c.w) A E use Q acc C (.ok .next) s'):wpAny (model P.c.prog P.c.w) A (comprehension e sc env pos newAcc false (eval iter env) use) Q E s:=by
 simp only [zc5,Bool.and_eq_true,beq_iff_eq,decide_eq_true_eq] at hsc
 obtain ⟨hk,hd⟩:=hsc
 obtain ⟨g0,gs⟩:=aI hg
 have look:∀x k,(x,k)∈sc.names→sc.names.lookup x=some k:=fun x k hx=>zdD hd hx
 have frees:∀x,(x,NameKind.free)∈sc.names→∃a,env.cells.lookup x=some a:=fun x hx=>by
  have:=aT hf _ hx
  obtain ⟨t,et⟩:=iE (show (fr.cel.lookup x).isSome=true from this)
  exact ⟨_,(F.cells x t et).2⟩
 refine wpAny_comprehension_free hcl (fun y=>zcb g0 env y) (zbh frees) hk (fun y hy hl=>look y.1 _ (hl▸hy)) ?_
 refine H A E _ s W env G F fun W₁ x vx h₁ s₁ S₁ V₁ H=>zga H A E _ s₁ W₁ vx (G.on S₁) V₁ fun W₂ v itv h₂ s₂ S₂ V₂ H=>H.go fun it e1 H=>H.go fun e2 H=>?_
 obtain ⟨hit,rfl⟩:=(AV.ref?_is e1▸V₂:VR _ _ (.ref it) itv)
 refine hnew S₂.rel fun W₃ s₃ acc S₃ V₃=>zoT ?_
 have S₀:=(S₁.trans S₂).trans S₃
 have F₃:=F.up S₀.le
 obtain ⟨W₄,S₄,hF⟩:=zhh (cls:= "dict") (sc:=sc) (clA:=zcu env sc.names []) (cl:=zbf fr.cel sc.names []) S₃.rel (zep F₃ hf fun x t e=>no e)
 have hit₃:it<(h₂.new o).nx:=Nat.lt_succ_of_lt hit
 rw [←S₃.le.pl it hit,←S₄.le.pl it hit₃]
 have hit₄:it<(zbq (h₂.new o) sc).nx:=lL hit₃ S₄.le.le
 have F₄:=hF {scope:=relabel sc env,locals:=s₃.heap.objs.size,globals:=env.globals,cells:=cellsFrom (s₃.heap.objs.size+1) sc.names (zcu env sc.names []),qual:=env.qual,func:=none,code:=env.code,frame:=env.frame,builtins:=env.builtins} none hk (fun x k hx=>ze6 rfl hx) rfl F.glob F.blt rfl (fun X X X e=>no e)
 have it4:zny ((zbq (h₂.new o) sc).at_ it)=true:=by
  have key:∀(names:List (Str×NameKind)) (h:Hp),it<h.nx→(zcq h names).at_ it=h.at_ it:=by
   intro names
   induction names with
   | nil=>exact fun X X=>rfl
   | cons p r ih=>
    intro h q
    obtain ⟨y,k⟩:=p
    induction k with
    | cell=>exact (ih _ (Nat.lt_succ_of_lt q)).trans (zae (Nat.ne_of_lt q))
    | _=>exact ih h q
  rw [zbq,key _ _ (Nat.lt_succ_of_lt hit₃),show ((h₂.new o).new (.frame [])).at_ it=(h₂.new o).at_ it from zae (Nat.ne_of_lt hit₃),show (h₂.new o).at_ it=h₂.at_ it from zae (Nat.ne_of_lt hit)]
  exact e2
 refine (KT acc _).start _ _ 0 _ _ ⟨t,iter,ifs,0⟩ rfl rfl (fun E=>zeD S₄.rel hit₄ it4 ⟨rfl,rfl⟩) ?_
 refine zf3 (KT acc _) rfl (zhc (KT acc _) (EM _ h₂.nx acc _) rest 0 rfl gs) ((G.on S₃).on S₄) F₄ (V₃.up S₄.le) hit₄ H fun W₅ h₅ s₅ S₅ H=>hQ acc _ s₅ ⟨W₅,h₅, .ref h₂.nx,h₂.nx+1,(S₀.trans S₄).trans S₅,V₃.up (S₄.trans S₅).le,Nat.le_succ_of_le (S₁.trans S₂).le.le,lL F₄.loc.1 S₅.le.le,(S₅.le.pl _ F₄.loc.1).trans F₄.loc.2.symm,H⟩
end
section
variable {T:Tabs} {P:PM T} {W W₁:Wd} {h h₁:Hp} {s s₁:Shared} {A:Around} {E:Value→Shared→Prop} {env cenv:Env} {fr:Fr} {e elt kx vx t iter:Expr} {ifs:List Expr} {rest:List Comprehension} {sc:Scope} {pos pos':Pos} {x:Str}
theorem zjG{o:AO}{ob:Obj}{Q:Value→Shared→Prop}(R:Rel P.c W h s)(hl:ob.isFreed=false)(hO:∀W',Le h.nx W (h.nx+1) W'→ObjIs P.c W' (h.nx+1) ob o)(q:∀W' s' val,Step P.c h.nx W s W' (h.new o) s'→VR W' (h.nx+1) (.ref h.nx) val→Q val s'){tk:Nat}{d:Drawn}:Q (.ref s.heap.objs.size) {s with heap:=s.heap.push ob,toks:=tk,drawn:=d}:=
 Kn.nu (P:=P) (K:=fun v h'=>v = .ref h.nx∧h'=h.new o) (Q:=Q) (fun X X X X X S V e=>by obtain ⟨rfl,rfl⟩:=e;exact q _ _ _ S V) R (o:=o) hl hO ⟨rfl,rfl⟩
theorem zlQ{Q:Value→Shared→Prop}(R:Rel P.c W h s)(q:∀W' s' val,Step P.c h.nx W s W' (h.new (.list false [])) s'→VR W' (h.nx+1) (.ref h.nx) val→Q val s'):wpAny (model P.c.prog P.c.w) A (newList []) Q E s:=wpAny_newList (zjG (o:= .list false []) (ob:=zbY "list" #[] 0) (tk:=s.toks) (d:=s.drawn) R rfl (fun X X=>⟨#[],_,rfl, .nil⟩) q) (Nat.zero_le _)
theorem zgR{Q:Value→Shared→Prop}(R:Rel P.c W h s)(q:∀W' s' val,Step P.c h.nx W s W' (h.new (.dict false [])) s'→VR W' (h.nx+1) (.ref h.nx) val→Q val s'):wpAny (model P.c.prog P.c.w) A newDict Q E s:=by
 unfold newDict
 exact wpAny_newObj_type (zjG (o:= .dict false []) (ob:={cls:= .type "dict",data:= .dict #[] 0}) (tk:=s.toks) (d:=s.drawn) R rfl (fun X X=>⟨#[],_,rfl, .nil,List.nodup_nil,fun X=>rfl⟩) q)
theorem zpw{K:AV→Hp→Prop}(H:K (.ref h.nx) (h.new (.dict false []))):JE P fr (.Dict [] [] pos) h K:=fun A E Q s W env G F kn=>by
 show wpAny _ A (eval (.Dict [] [] pos) env) Q E s
 rw [arm_eval_Dict]
 refine wB (wpAny_standAt ?_)
 show wpAny _ _ (dictDisplay []) _ _ _
 unfold dictDisplay
 try dsimp only
 rw [List.forIn_nil]
 refine wB (wP ?_)
 dsimp only
 exact wB (m:=(pure none:Sem (Option Addr))) (wP (zgR (P:=P) G.rel fun W' s' val S V=>kn S V H))
def zf0(fr:Fr)(iter:Expr)(rest:List Comprehension)(sc:Scope):Bool:=zc5 sc&&(!zgb iter&&rest.all zed)&&zdL fr.cel sc.names
theorem zeZ(h:zf0 fr iter rest sc=true):zc5 sc=true∧(!zgb iter&&rest.all zed)=true∧zdL fr.cel sc.names=true∧(Comprehension.mk t iter ifs 0 :: rest).all zed=true:=by
 obtain ⟨h,h4⟩:=aI h
 obtain ⟨h2,h3⟩:=aI h
 exact ⟨h2,h3,h4,h3⟩
theorem zrU{K:AV→Nat→Hp→Prop}(ho:zf0 fr iter rest sc=true)(H:zpE P fr iter t ifs rest sc (.list false []) (zkk P elt) h K):JC P fr (.ListComp elt (⟨t,iter,ifs,0⟩ :: rest) sc pos) h K:=fun A E s W env Q G F=>by
 have tm32:=zeZ (t:=t) (ifs:=ifs) ho
 have h1:=tm32.1
 have h2:=tm32.2.1
 have h3:=tm32.2.2.1
 have h4:=tm32.2.2.2
 have core:=fun use q=>zfm (A:=A) (E:=E) (pos:=firstIterPos (⟨t,iter,ifs,0⟩ :: rest) pos) (use:=use) (Q:=Q) (env:=env) (e:= .ListComp elt (⟨t,iter,ifs,0⟩ :: rest) sc pos) (emit:=fun acc cenv=>do let _←call (.builtin "list.append") [acc,←eval elt cenv]) rfl h1 h2 h3 zlQ (zmb (P:=P) h4) (fun X X X X=>zmz) G F H q
 exact ⟨core none,fun u q=>by rw [arm_evalThenUse_ListComp];exact wB (wpAny_mono (core (some u) q) (fun v s' q=>wP ⟨v,q⟩) fun X X q=>q)⟩
theorem zrY{K:AV→Nat→Hp→Prop}(ho:zf0 fr iter rest sc=true)(H:zpE P fr iter t ifs rest sc (.dict false []) (zfk P kx vx) h K):JC P fr (.DictComp kx vx (⟨t,iter,ifs,0⟩ :: rest) sc pos) h K:=fun A E s W env Q G F=>by
 have tm36:=zeZ (t:=t) (ifs:=ifs) ho
 have h1:=tm36.1
 have h2:=tm36.2.1
 have h3:=tm36.2.2.1
 have h4:=tm36.2.2.2
 have core:=fun use q=>zfm (A:=A) (E:=E) (pos:=firstIterPos (⟨t,iter,ifs,0⟩ :: rest) pos) (use:=use) (Q:=Q) (env:=env) (e:= .DictComp kx vx (⟨t,iter,ifs,0⟩ :: rest) sc pos) (emit:=fun acc cenv=>zbS kx vx acc cenv) rfl h1 h2 h3 zgR (zmc (P:=P) h4) (fun X X X X=>zkl) G F H q
 exact ⟨core none,fun u q=>by rw [arm_evalThenUse_DictComp];exact wB (wpAny_mono (core (some u) q) (fun v s' q=>wP ⟨v,q⟩) fun X X q=>q)⟩
theorem zr3(R:Rel P.c W h s){L:Nat}(hL:L<h.nx)(e:(h.at_ L).frame?.isSome=true):∃m,s.heap.Ns (W.pl L) m:=(iE e).elim fun l e=>(R.obj hL (AO.frame?_is e) rfl).elim fun ob o=>o.2.elim fun es q=>q.elim fun ep q=>⟨nsFind es,ob,es,ep,o.1,q.1,q.2.1,fun X=>rfl⟩
theorem gone(R:Rel P.c W h s){L:Nat}(hL:L<h.nx)(e:(h.at_ L).frame?.isSome=true){h':Heap}(sb:Heap.SameBut (W.pl L) s.heap h'):Step P.c h.nx W s W (h.set L .other) {s with heap:=h'}:=
 .set R (k:=L) .other hL ((iE e).elim fun l e=>AO.frame?_is e▸rfl) (fun l=>nb l) (fun b o e hb=>(sb.2 b hb).trans e) rfl rfl (Nat.le_of_eq sb.1.symm)
def zuf(L:Nat)(h:Hp):Tr Unit:= .rq (h.at_ L).frame?.isSome (.ret () (h.set L .other))
def zug(K:AV→Hp→Prop)(v:AV)(L:Nat)(h:Hp):Prop:=frz v h fun v h=>(zuf L h).sem fun X h=>K v h
theorem zkm{K:AV→Hp→Prop}(H:JC P fr e h (zug K)):JE P fr e h K:=fun A E Q s W env G F kn=>(H A E s W env Q G F).1 fun acc C s' q=>by
 obtain ⟨W₁,h₁,v,L,S₁,V,X,hL,rfl,H⟩:=q
 obtain ⟨W',v',h',S₂,V,H⟩:=zhg H S₁.rel V
 have S:=S₁.trans S₂
 rw [←S₂.le.pl L hL]
 have hL:=lL hL S₂.le.le
 exact H.go fun e H=>(zr3 S.rel hL e).imp fun m hm=>⟨hm,fun h₂ sb=>kn (S.trans (gone S.rel hL e sb)) (show VR _ _ v' acc from V) H⟩
theorem zhN{l:Nat}(h:zbd e=true)(hset:∀a b d p,e≠ .SetComp a b d p):∃b,swapsWith e (some t) l env=pure b∧(b=true→∃x p,t = .Name x p):=by
 induction e using cE <;> first | exact nb h | skip
 ·induction t using cE <;> first | exact ⟨_,rfl,fun X=>⟨_,_,rfl⟩⟩ | exact ⟨false,rfl,fun q=>nomatch q⟩
 ·exact absurd rfl (hset _ _ _ _)
 ·induction t using cE <;> first | exact ⟨_,rfl,fun X=>⟨_,_,rfl⟩⟩ | exact ⟨false,rfl,fun q=>nomatch q⟩
theorem Hp.set_comm{a b:Nat}{o o':AO}(q:a≠b):(h.set a o).set b o'=(h.set b o').set a o:=congrArg (Hp.mk h.nx) (funext fun k=>by
 show upd (upd h.at_ a o) b o' k=upd (upd h.at_ b o') a o k
 by_cases y:k=b
 ·subst y;rw [upd_self,zae (Ne.symm q),upd_self]
 ·rw [zae y]
  by_cases z:k=a
  ·subst z;rw [upd_self,upd_self]
  ·rw [zae z,zae z,zae y])
theorem ziS{v:AV}{L:Nat}{K:Unit→Hp→Prop}(hl:fr.L≠L)(hc:∀x t,fr.cel.lookup x=some t→t≠L)(e:(h.at_ L).frame?.isSome=true)(H:zhS fr x v (h.set L .other) K):zhS fr x v h fun X h'=>req (h'.at_ L).frame?.isSome (K () (h'.set L .other)):=H.go fun k e1 H=>zbM e1 (by
 have lv:∀{a:Nat} {o:AO},a≠L→K () ((h.set L .other).set a o)→req ((h.set a o).at_ L).frame?.isSome (K () ((h.set a o).set L .other)):=fun n H=>zoA ((congrArg (fun o:AO=>o.frame?.isSome) (zae (Ne.symm n))).trans e) (by rw [Hp.set_comm n];exact H)
 have at_:∀{a:Nat},a≠L→(h.set L .other).at_ a=h.at_ a:=fun n=>zae n
 induction k with
 | «local» =>exact opt.go H fun l e2 H=>zbM (at_ hl▸e2) (lv hl H)
 | cell=>exact opt.go H fun t e2 H=>opt.go H fun w e3 H=>zbM e2 (zbM (at_ (hc x t e2)▸e3) (lv (hc x t e2) H))
 | _=>exact False.elim H)
theorem ziD{K:Fl→Hp→Prop}(hc:zbd e=true)(hset:∀a b d p,e≠ .SetComp a b d p)(hs:∀env,swappedStores [.Name x pos'] e env=pure none)(H:JC P fr e h (zug fun v h=>zhS fr x v h fun X h=>K .next h)):JS P fr (.Assign [.Name x pos'] e pos) h K:=fun A E Q s W env G F kn=>by
 show wpAny _ A (exec (.Assign [.Name x pos'] e pos) env) Q E s
 rw [exec_Assign_arm]
 refine wB (wpAny_standAt ?_)
 obtain ⟨b,hb,X⟩:=zhN (env:=env) (t:= .Name x pos') (l:=pos.line) hc hset
 rw [show swapsWithSole [.Name x pos'] e pos.line env=Pure.pure b from hb]
 refine wB (wP ?_)
 induction b with
 | false=>
  refine Mine.wIfN (by decide) ?_
  refine wB (zkm (P:=P) H A E _ s W env G F fun W₁ v va h₁ s₁ S₁ V₁ H=>?_)
  rw [hs]
  refine wB (wP ?_)
  show wpAny _ A (do assignAll va [assign (.Name x pos') env];Pure.pure Flow.next) _ E s₁
  exact wB (zl4 H A E _ _ _ (env,va) (G.on S₁) ⟨F.up S₁.le,V₁⟩ fun X X X X X S V H=>wP (kn (v:= .next) (S₁.trans S) rfl H))
 | true=>
  refine Mine.wIfP rfl ?_
  have main:=(H A E s W env (fun X s'=>Q .next s') G F).2 (fun v=>assignAll v ((assignEach [.Name x pos'] env).map (·.2))) fun acc C s' q=>by
   obtain ⟨W₁,h₁,v,L,S₁,V,hge,hL,rfl,H⟩:=q
   obtain ⟨W',v',h',S₀,V,H⟩:=zhg H S₁.rel V
   have S:=S₁.trans S₀
   rw [←S₀.le.pl L hL]
   have hL:=lL hL S₀.le.le
   show wpAny _ A (assign (.Name x pos') env acc) _ E s'
   refine req.go H fun e H=>?_
   refine zl4 (ziS (Nat.ne_of_lt (lL F.loc.1 hge)) (fun x t e=>Nat.ne_of_lt (lL (F.cells x t e).1 hge)) e H) A E _ s' W' (env,acc) (G.on S) ⟨F.up S.le,V⟩ fun W₂ X X h₂ s₂ S₂ X H=>H.go fun e H=>?_
   have hL₂:=lL hL S₂.le.le
   rw [←S₂.le.pl L hL]
   exact (zr3 S₂.rel hL₂ e).imp fun m hm=>⟨hm,fun h₃ sb=>kn (v:= .next) ((S.trans S₂).trans (gone S₂.rel hL₂ e sb)) rfl H⟩
  exact wB (wpAny_mono main (fun X s' q=>q.elim fun X q=>wP q) fun X X q=>q)
end
def znW{α:Type}(sl:List (Str×α))(e:Str×α):List (Str×α):=cond (sl.lookup e.1).isNone (sl ++ [e]) sl
noncomputable def ddF{α:Type}(n:Nat)(dv:List α):List α:=dv.drop (dv.length-n)
def znj{α:Type}(ns:List Str)(dv pos:List α)(kw:List (Str×α)):List (Str×α):=((ns.drop (ns.length-(ddF ns.length dv).length)).zip (ddF ns.length dv)).foldl znW (ns.zip pos++kw)
def zdg{α:Type}(ns ko:List Str)(dv pos:List α)(kw:List (Str×α)):List (Str×α):=(ns++ko).filterMap fun n=>((znj ns dv pos kw).lookup n).map (n,·)
noncomputable def zs0(ns ko:List Str)(d n:Nat)(kk:List Str):List Bool:=
 [kk.tail.isEmpty,kk.all fun k=>(ns.contains k || ko.contains k) && !(ns.take n).contains k,Nat.ble n ns.length,(ns.take (ns.length-(d-(d-ns.length)))).all (ns.take n++kk).contains,ko.all (ns.take n++kk).contains]
theorem zbc{β:Type}(m:Str):∀l:List (Str×β),(l.lookup m).isNone = !(l.map (·.1)).contains m
 | []=>rfl
 | p :: l=>by
  rw [List.lookup_cons,List.map_cons,List.contains_cons]
  induction m==p.1 with
  | true=>rfl
  | false=>exact zbc m l
theorem zdZ{β:Type}:∀(ns:List Str) (xs:List β),(ns.zip xs).map (·.1)=ns.take xs.length
 | [],_=>List.take_nil.symm
 | _ :: _, []=>rfl
 | n :: ns,x :: xs=>congrArg (n :: ·) (zdZ ns xs)
theorem zl1{β:Type}{m:Str}{sl:List (Str×β)}(e:Str×β)(h:(sl.lookup m).isNone=false):((znW sl e).lookup m).isNone=false:=by
 unfold znW
 induction (sl.lookup e.1).isNone with
 | false=>exact h
 | true=>
  rw [zbc,Bool.not_eq_false'] at h
  exact (zbc m (sl ++ [e])).trans (by rw [List.map_append,List.contains_eq_any_beq,List.any_append,←List.contains_eq_any_beq,h];rfl)
theorem zfd{β:Type}{m:Str}:∀(l:List (Str×β)) {sl:List (Str×β)},(sl.lookup m).isNone=false→((l.foldl znW sl).lookup m).isNone=false
 | [],_,h=>h
 | e :: l,_,h=>zfd l (zl1 e h)
section
variable {M:Model} {A:Around} {E:Value→Shared→Prop} {s:Shared} {α β γ:Type}
theorem zbP{a:α}{l:List α}{b:β}{f:α→β→Sem (ForInStep β)}{Q:β→Shared→Prop}(h:wpAny M A (f a b>>=fun r=>match r with | .done b=>pure b | .yield b=>forIn l b f) Q E s):wpAny M A (forIn (a :: l) b f) Q E s:=by rw [List.forIn_cons];exact h
theorem zhi(g:β→α→β){f:α→β→Sem (ForInStep β)}{Q:β→Shared→Prop}:∀(l:List α) (b:β),(∀a,a∈l→∀b,f a b=pure (.yield (g b a)))→Q (l.foldl g b) s→wpAny M A (forIn l b f) Q E s
 | [],_,_,q=>wP q
 | a :: l,b,hf,q=>zbP (hf a mS b▸zhi g l (g b a) (fun a m=>hf a (mM _ m)) q)
theorem znE{f:α→β→Sem (ForInStep β)}{Q:β→Shared→Prop}{b:β}:∀(l:List α),(∀a,a∈l→f a b=pure (.yield b))→Q b s→wpAny M A (forIn l b f) Q E s
 | [],_,q=>wP q
 | a :: l,hf,q=>zbP (hf a mS▸znE l (fun a m=>hf a (mM _ m)) q)
theorem ifF{c:Bool}{t e:Sem α}{Q:α→Shared→Prop}(h:c=false)(q:wpAny M A e Q E s):wpAny M A (if c=true then t else e) Q E s:=by subst h;exact q
theorem ifT{c:Bool}{t e:Sem α}{Q:α→Shared→Prop}(h:c=true)(q:wpAny M A t Q E s):wpAny M A (if c=true then t else e) Q E s:=by subst h;exact q
theorem ifN{c:Prop}[Decidable c]{t e:Sem α}{Q:α→Shared→Prop}(h:¬c)(q:wpAny M A e Q E s):wpAny M A (if c then t else e) Q E s:=if_neg h▸q
theorem zpl{l:List α}{g:α→γ}{b b1:β}{f:α→β→Sem (ForInStep β)}{Q:β→Shared→Prop}(c:(l.map g).tail.isEmpty=true)(h0:l = []→b=b1)(h1:∀a,l = [a]→f a b=pure (.yield b1))(q:Q b1 s):wpAny M A (forIn l b f) Q E s:=by
 induction l using cL with
 | nil=>exact wP ((h0 rfl).symm▸q)
 | cons a r=>
  obtain rfl:r = []:=List.map_eq_nil_iff.mp (eI c)
  exact zbP (h1 a rfl▸wP q)
def zn7(s:Shared)(v:Value)(o:Option (Array Value)):Prop:=(v = .none∧o=none)∨∃T ob items n,v = .ref T∧s.heap.get? T=some ob∧ob.data = .seq items n∧o=some items
theorem zot{v:Value}{o:Option (Array Value)}{Q:Option (Array Value)→Shared→Prop}(h:zn7 s v o)(q:Q o s):wpAny M A (seqItems? v) Q E s:=
 h.elim (fun ⟨e,e2⟩=>e▸wP (e2▸q)) fun ⟨T,X,items,n,e,h1,h2,h3⟩=>e▸wpAny_seqItems h1 h2 (h3▸q)
theorem andF{a b:Bool}(h:a=false):(a&&b)=false:=by subst h;rfl
theorem zai(i:Nat):∀{l:List Bool},l.all id=true→l.getD i true=true:=by
 induction i with
 | zero=>exact fun {l} h=>by induction l using cL with
  | nil=>rfl
  | cons b l=>exact (aI h).1
 | succ i ih=>exact fun {l} h=>by induction l using cL with
  | nil=>rfl
  | cons b l=>exact ih (aI h).2
theorem ztM{fd:FuncData}{ps ko:List Arg}{kd kwa ds}{o:Option (Array Value)}{pos:List Value}{kw:List (Str×Value)}{Q:List (Str×Value)→Shared→Prop}(hD:zn7 s fd.defaults o)
  (c:(zs0 (ps.map (·.arg)) (ko.map (·.arg)) (o.getD #[]).toList.length pos.length (kw.map (·.1))).all id=true)
  (hq:Option.casesOn (motive:=fun X=>Prop) kwa (Q (zdg (ps.map (·.arg)) (ko.map (·.arg)) (o.getD #[]).toList pos kw) s)
   fun k=>Q (zdg (ps.map (·.arg)) (ko.map (·.arg)) (o.getD #[]).toList pos kw ++ [(k.arg, .ref s.heap.objs.size)]) {s with heap:=s.heap.push {cls:= .type "dict",data:= .dict #[]}})
  (hp:fd.params = ⟨[],ps,none,ko,kd,kwa,ds⟩):wpAny M A (bindArgs fd ⟨pos,kw⟩) Q E s:=by
 have has:∀n,((ps.map (·.arg)).take pos.length++kw.map (·.1)).contains n=true→(((ps.map (·.arg)).zip pos++kw).lookup n).isNone=false:=fun n h=>(zbc n _).trans (by rw [List.map_append,zdZ,h];rfl)
 unfold bindArgs
 rw [hp]
 refine wB (zpl (l:=kw) (g:=(·.1)) (b1:=((ps.map (·.arg)).zip pos++kw, [])) (zai 0 c) (fun e=>by rw [e,List.append_nil];rfl) (fun (k,v) e=>?_) ?_)
 ·have z:=aI (aT (zai 1 c) k (by rw [e];exact mS))
  refine (if_pos z.1).trans ((if_neg (Bool.eq_false_iff.mp ?_)).trans (by rw [e];rfl))
  exact Option.isSome_eq_false_iff.mpr ((zbc k ((ps.map fun x:Arg=>x.arg).zip pos)).trans (by rw [zdZ];exact z.2))
 refine wB (zot hD (ifF (andF (decide_eq_false (Nat.not_lt.mpr (jL (zai 2 c))))) ?_))
 refine ifF ?_ ?_
 ·refine congrArg not (List.isEmpty_iff.mpr (List.filter_eq_nil_iff.mpr fun n m=>Bool.eq_false_iff.mp (has n ?_)))
  exact aT (zai 3 c) n (List.length_drop (i:=(o.getD #[]).toList.length-(ps.map (·.arg)).length) (l:=(o.getD #[]).toList)▸m)
 refine wB (zhi znW _ _ (fun e X b=>?_) ?_)
 ·show (if (b.lookup e.1).isNone=true then _ else _)=pure (ForInStep.yield (cond (b.lookup e.1).isNone _ _))
  induction (b.lookup e.1).isNone <;> rfl
 refine wB (znE _ (fun n m=>if_neg (Bool.eq_false_iff.mp (zfd _ (has n (aT (zai 4 c) n m))))) (ifF rfl ?_))
 induction kwa with
 | none=>exact wP hq
 | some k=>exact ifN (zN _) (wB (wpAny_alloc (wP hq)))
end
section
variable {T:Tabs} {P:PM T} {W W₁:Wd} {h h₁:Hp} {s s₁:Shared} {A:Around} {E:Value→Shared→Prop} {env:Env} {fr:Fr} {fd:FDat} {cl:List (Str×Nat)} {dflt args:List AV} {kw:List (Str×AV)} {vals:List Value} {kvals:List (Str×Value)} {K:AV→Hp→Prop}
theorem zez{a:Addr}{args:Args}{o:Obj}{fd:FuncData}{body:List Stmt}{R:Result→Shared→Prop}{cd:Addr}{oc:Obj}{vs:Array Value}{q:Str}{tq:Tok}(hroom:A.depth<recursionLimit)
  (ho:s.heap.get? a=some o) (hd':o.data = .func fd) (hco:fd.scope.isCoroutine=false) (hgen:fd.scope.isGenerator=false) (hbody:fd.body = .stmts body)
  (hc:fd.code = .ref cd) (hoc:s.heap.get? cd=some oc) (hdc:oc.data = .fields vs) (hq:vs[1]? = some (.str q tq))
  (h:wpAny (model P.c.prog P.c.w) A.in1 (bindArgs fd args) (fun binds s₁=>
   wpAny (model P.c.prog P.c.w) A.in1 (newFunctionEnv fd.scope fd.globals fd.closure binds (q++ ".<locals>.") (some a) fd.code none fd.builtins)
    (fun env s₂=>s₂.heap.NoLimit∧codeAny (model P.c.prog P.c.w) A (.func body env) R s₂) (fun e s'=>R (.error e) s') s₁) (fun e s'=>R (.error e) s') s):
  codeAny (model P.c.prog P.c.w) A (.call (.ref a) args) R s:=by
 refine codeAny_of_tree ?_
 show wpAny _ A.in1 (callAny (.ref a) args) _ _ s
 simp only [callAny]
 refine wB (wpAny_load ho ?_)
 simp only [hd',callFunction,hco,hgen,hbody,hc]
 rw [hc] at h
 refine wB (m:=field (.ref cd) 1) (wpAny_field hoc hdc hq (wB (wP ?_)))
 exact wB (wpAny_mono h (fun binds s₁ h₁=>wB (wpAny_mono h₁ (fun env s₂ h₂=>wB (wpAny_enterFrame h₂.1 hroom
  (wP (And.intro rfl h₂.2)))) fun X X h'=>h')) fun X X h'=>h')
theorem ziv{q g:Addr}{sv:Value}{args:List Value}{kw:List (Str×Value)}{R:Result→Shared→Prop}(ho:s.heap.get? q=some {cls:= .type "method",data:= .fields #[.ref g,sv]})
  (h:codeAny (model P.c.prog P.c.w) A (.call (.ref g) ⟨sv :: args,kw⟩) R s):codeAny (model P.c.prog P.c.w) A (.call (.ref q) ⟨args,kw⟩) R s:=by
 refine codeAny_of_tree ?_
 show wpAny _ A.in1 (callAny (.ref q) _) _ _ s
 simp only [callAny]
 refine wB (wpAny_load ho ?_)
 dsimp only
 refine Mine.wIfP (by decide) ?_
 exact wP (And.intro rfl h)
theorem RoomC.deeper{n:Nat}(h:RoomC A (n+1)):Room (A.deeper env) n:=⟨h.hand,by have:=h.depth;show A.depth+1+_+_<_;lia,by have:=h.units;show A.units+3+_+_<_;lia⟩
def zpO{β:Type}(p:Arguments)(dflt args:List AV)(kw:List (Str×AV))(h:Hp)(K:List (Str×AV)→Hp→Tr β):Tr β:= .rq (p.posonlyargs.isEmpty&&(p.vararg.isNone&&(zs0 (p.args.map (·.arg)) (p.kwonlyargs.map (·.arg)) dflt.length args.length (kw.map (·.1))).all id))
 (.al p.kwarg (fun k=>K (zdg (p.args.map (·.arg)) (p.kwonlyargs.map (·.arg)) dflt args kw ++ [(k.arg, .ref h.nx)]) (h.new (.dict false []))) (K (zdg (p.args.map (·.arg)) (p.kwonlyargs.map (·.arg)) dflt args kw) h))
theorem KR.zip{n:Nat}:∀{names:List Str} {xs:List AV} {vs:List Value},Rs (VR W n) xs vs→KR W n (names.zip xs) (names.zip vs)
 | [],_,_,_=> .nil
 | _ :: _,_,_, .nil=> .nil
 | n :: ns,_,_, .cons h t=> .cons ⟨rfl,h⟩ (KR.zip t)
theorem Rs.drop{α β:Type}{R:α→β→Prop}{xs:List α}{ys:List β}(h:Rs R xs ys):∀k,Rs R (xs.drop k) (ys.drop k):=by
 induction h with
 | nil=>intro k;rw [List.drop_nil,List.drop_nil];exact .nil
 | cons h t ih=>intro k;induction k using Nat.casesOn with
  | zero=>exact .cons h t
  | succ k=>exact ih k
theorem KR.look{n:Nat}(m:Str)(k:KR W n kw kvals):(kw.lookup m=none∧kvals.lookup m=none)∨∃x v,kw.lookup m=some x∧kvals.lookup m=some v∧VR W n x v:=by
 induction k with
 | nil=>exact .inl ⟨rfl,rfl⟩
 | cons a X ih=>
  rw [List.lookup_cons,List.lookup_cons,a.1]
  split
  ·exact .inr ⟨_,_,rfl,rfl,a.2⟩
  ·exact ih
theorem KR.fold{n:Nat}{l:List (Str×AV)}{l':List (Str×Value)}(k:KR W n l l'):∀{kw kvals},KR W n kw kvals→KR W n (l.foldl znW kw) (l'.foldl znW kvals):=by
 induction k with
 | nil=>exact id
 | @cons e e' _ _ a _ ih=>
  refine fun q=>ih ?_
  unfold znW
  rw [a.1]
  exact (q.look e.1).elim (fun z=>by rw [z.1,z.2];exact q.app (.cons a .nil)) fun ⟨x,v,z,z',X⟩=>by rw [z,z'];exact q
theorem KR.binds{n:Nat}(q:KR W n kw kvals):∀ns:List Str,KR W n (ns.filterMap fun m=>(kw.lookup m).map (m,·)) (ns.filterMap fun m=>(kvals.lookup m).map (m,·))
 | []=> .nil
 | m :: ns=>by
  rw [List.filterMap_cons,List.filterMap_cons]
  exact (q.look m).elim (fun z=>by rw [z.1,z.2];exact q.binds ns) fun ⟨x,v,z,z',r⟩=>by rw [z,z'];exact .cons ⟨rfl,r⟩ (q.binds ns)
theorem KR.keys{n:Nat}(q:KR W n kw kvals):kvals.map (·.1)=kw.map (·.1):=by
 induction q with
 | nil=>rfl
 | cons a X ih=>rw [List.map_cons,List.map_cons,a.1,ih]
theorem zpN{fd':FuncData}{p:Arguments}{o:Option (Array Value)}{β:Type}{κ:List (Str×AV)→Hp→Tr β}{K:β→Hp→Prop}{Q:List (Str×Value)→Shared→Prop}(hp:fd'.params=p)(hD:zn7 s fd'.defaults o)(hd:Rs (VR W h.nx) dflt (o.getD #[]).toList)
  (R:Rel P.c W h s) (hv:Rs (VR W h.nx) args vals) (hk:KR W h.nx kw kvals) (H:(zpO p dflt args kw h κ).sem K)
  (q:∀W' bs bv h' s',Step P.c h.nx W s W' h' s'→KR W' h'.nx bs bv→(κ bs h').sem K→Q bv s'):wpAny (model P.c.prog P.c.w) A (bindArgs fd' ⟨vals,kvals⟩) Q E s:=H.go fun g H=>by
 obtain ⟨po,ps,va,ko,kd,kwa,ds⟩:=p
 obtain ⟨g1,g⟩:=aI g
 obtain ⟨g2,g⟩:=aI g
 obtain rfl:po = []:=eI g1
 obtain rfl:va=none:=jN g2
 have base:∀{W' n'},Le h.nx W n' W'→KR W' n' (zdg (ps.map (·.arg)) (ko.map (·.arg)) dflt args kw) (zdg (ps.map (·.arg)) (ko.map (·.arg)) (o.getD #[]).toList vals kvals):=fun {W' n'} L=>by
  have D:Rs (VR W' n') (ddF (ps.map (·.arg)).length dflt) (ddF (ps.map (·.arg)).length (o.getD #[]).toList):=by
   unfold ddF
   rw [←hd.len]
   exact Rs.drop (VR.ups L hd) _
  unfold zdg znj
  rw [←D.len]
  exact KR.binds (KR.fold (KR.zip D) ((KR.zip (VR.ups L hv)).app (KR.up L hk))) _
 refine ztM hD (by rw [←hd.len,←hv.len,hk.keys];exact g) ?_ hp
 induction kwa with
 | none=>exact q _ _ _ _ _ (.refl R) (base .refl) H
 | some k=>
  have S:Step P.c h.nx W s (W.put h.nx s.heap.objs.size) (h.new (.dict false [])) {s with heap:=s.heap.push {cls:= .type "dict",data:= .dict #[]}}:= .new R (a:=s.heap.objs.size) (.dict false []) (fun X=>⟨_,pZ _ rfl, #[],_,rfl, .nil,List.nodup_nil,fun X=>rfl⟩) (rL _) (R.outside (rL _)) (fun X X e=>pS _ e) rfl rfl
  exact q _ _ _ _ _ S ((base S.le).app (.cons (x:=(k.arg,AV.ref h.nx)) ⟨rfl,show VR _ _ (.ref h.nx) _ from ⟨sS _,congrArg Value.ref upd_self.symm⟩⟩ .nil)) H
def zbG{β:Type}(fr:Fr)(bs:List (Str×AV))(h:Hp)(k:Hp→Tr β):Tr β:=match bs with
 | []=>k h
 | e :: r=>zcH fr e.1 e.2 h fun h=>zbG fr r h k
theorem zcI{β:Type}{κ:Hp→Tr β}{K:β→Hp→Prop}{Q:PUnit→Shared→Prop}:∀{bs:List (Str×AV)} {bv:List (Str×Value)} {W:Wd} {h:Hp} {s:Shared},Go P W h s A→FrAt P.c W h.nx env fr→KR W h.nx bs bv→(zbG fr bs h κ).sem K→
  (∀W' h' s',Step P.c h.nx W s W' h' s'→(κ h').sem K→Q ⟨⟩ s')→wpAny (model P.c.prog P.c.w) A (forIn bv PUnit.unit fun (x:Str×Value) (_:PUnit)=>(do storeName env x.1 x.2;pure (ForInStep.yield PUnit.unit):Sem (ForInStep PUnit))) Q E s
 | [],_,W,h,s,G,F, .nil,H,q=>by rw [List.forIn_nil];exact wP (q _ _ _ (.refl G.rel) H)
 | (x,v) :: r,_,W,h,s,G,F, .cons (y:=y) a t,H,q=>by
  rw [List.forIn_cons]
  obtain ⟨yx,yv⟩:=y
  obtain ⟨rfl,a⟩:=a
  exact wB (wB (zcx H A E _ s W (env,yv) G ⟨F,a⟩ fun X X X X X S X H=>wP (zcI (G.on S) (F.up S.le) (KR.up S.le t) H fun X X X S' H=>q _ _ _ (S.trans S') H)))
end
section
variable {T:Tabs} {P:PM T} {W W₁:Wd} {h h₁:Hp} {s s' s₁:Shared} {A:Around} {E:Value→Shared→Prop} {env:Env} {fr:Fr} {t a:Addr} {l k:Nat} {pos:Pos} {c:Cx}
theorem Step.code{ob:Obj}(R:Rel c W h s)(ht:t∈c.tabs)(hx:Heap.ExtBut t s.heap s'.heap)(ha:s.heap.objs.size≤a)(hO:s'.heap.get? a=some ob)(hC:zgr ob)(hT:s'.heap.get? t=some {cls:= .none,data:= .fields #[rawInt (c.tinfo t).1,rawInt (c.tinfo t).2, .ref a]})(hz:s.heap.objs.size≤s'.heap.objs.size)(hg:s'.gens=s.gens)(ho:s'.os=s.os):
  ∃W',Step c h.nx W s W' h s'∧VR W' h.nx .cod (.ref a):=by
 have nB:∀b,c.B.get? b=none→b≠t:=fun b e q=>(R.amb.tab t ht).1 (q▸e)
 have hB:c.B.get? a=none:=R.outside ha
 have fz:∀b o,W.fz b=some o→b≠a:=fun b o e q=>Nat.not_le_of_lt (Heap.lt_size (R.fz b o e).2.1) (q▸ha)
 have L:Le h.nx W h.nx ⟨W.pl,upd W.fz a (some ob)⟩:=⟨rL _,fun X X=>rfl,fun b o e=>(zae (fz b o e)).trans e⟩
 refine ⟨⟨W.pl,upd W.fz a (some ob)⟩,⟨⟨fun j q u=>?_,R.apart,fun b o e=>?_,⟨fun b o e q=>hx b o (fun z=>q (z▸ht)) (R.amb.base b o e q),fun u hu=>⟨(R.amb.tab u hu).1,?_⟩,hg.trans R.amb.gens,ho.trans R.amb.os⟩⟩,L,hz,fun X a b=>absurd a (Nat.not_le_of_lt b),fun b o e=>?_,fun b o e X q=>hx b o (fun z=>q (z▸ht)) e⟩,⟨a,ob,rfl,upd_self,hC⟩⟩
 ·exact (R.at_ j q u).elim fun n ⟨o,h1,h2⟩=>⟨n,o,hx _ _ (nB _ n) h1,h2.up L⟩
 ·by_cases q:b=a
  ·subst q
   obtain rfl:ob=o:=sI (upd_self.symm.trans e)
   exact ⟨hB,hO,fun j q u e=>Nat.not_le_of_lt ((R.at_ j q u).2.elim fun X z=>Heap.lt_size z.1) (e▸ha)⟩
  ·have e:W.fz b=some o:=(zae q).symm.trans e
   exact ⟨(R.fz b o e).1,hx _ _ (nB _ (R.fz b o e).1) (R.fz b o e).2.1,(R.fz b o e).2.2⟩
 ·by_cases q:u=t
  ·subst q;exact .inr ⟨a,ob,hT,upd_self,hC⟩
  ·exact (R.amb.tab u hu).2.imp (hx u _ q) fun ⟨b,o,h1,h2,h3⟩=>⟨b,o,hx u _ q h1,L.fz _ _ h2,h3⟩
 ·by_cases q:b=a
  ·exact .inr (.inl (q▸ha))
  ·exact .inl ((zae q).symm.trans e)
theorem zd6{fl:Nat}{name q:Str}{ps:Arguments}{sc:Scope}{body:FuncBody}{Q:Value→Shared→Prop}(F:FrAt P.c W h.nx env fr)(R:Rel P.c W h s)(htab:fr.tab=some (t,l,k))(hl:pos.line=l)(hc:pos.col=k)
  (qq:∀W' a s',Step P.c h.nx W s W' h s'→VR W' h.nx .cod (.ref a)→Q (.ref a) s'):wpAny (model P.c.prog P.c.w) A (functionCode env pos fl name q ps sc body) Q E s:=by
 obtain ⟨ht,hi,cd,hcode,hcd,hT,hI⟩:=F.tab t l k htab
 obtain ⟨⟨oc,vc,hoc,hcc,hdc,h11⟩,htB⟩:=hT
 have hoc':s.heap.get? cd=some oc:=R.amb.base _ _ hoc hcd
 obtain ⟨o,vs,file,tf,flags,tg,inF,text,tt,op,i1,i2,i3,i4,i5,i6,i7,i8,i9,i10,i11⟩:=hI
 have i1':s.heap.get? cd=some o:=R.amb.base _ _ i1 hcd
 rcases (R.amb.tab t ht).2 with hh | ⟨a,ob,h1,h2,h3⟩
 ·have hI':s.heap.IsCode cd t #[]:=⟨o,vs,file,tf,flags,tg,inF,text,tt,_,i1',i2,i3,i4,i5,i6,i7,hh,rfl,i10,i11⟩
  refine wpAny_sz (wpAny_functionCodeX hcode hI' ⟨⟨oc,vc,hoc',hcc,hdc,h11⟩,hh⟩ rfl fun c' h' tk hx hge hlt hok hrec htb hP hsz=>?_)
  obtain ⟨c₂,o₂,vs₂,t₂,e₂,g₂,r₂,r₃⟩:=hrec
  cases e₂
  obtain ⟨P',X,Z,⟨⟨oc',vc',q1,q2,q3,q4⟩,Y⟩⟩:=hP
  rw [g₂] at q1;obtain rfl:=sI q1
  obtain ⟨W',S,V⟩:=Step.code (s':={s with heap:=h',toks:=tk}) R ht hx hge g₂ ⟨vs₂,q,t₂,q2,r₂,r₃⟩ (by rw [hi,←hl,←hc];simpa using htb.2) hsz rfl rfl
  exact qq W' _ _ S V
 ·rw [hi] at h1
  have hI':s.heap.IsCode cd t #[rawInt l,rawInt k, .ref a]:=⟨o,vs,file,tf,flags,tg,inF,text,tt,_,i1',i2,i3,i4,i5,i6,i7,h1,rfl,by unfold rawInt;exact trivial,i11⟩
  refine wpAny_functionCode_hit (c':= .ref a) hcode hI' ?_ (qq W a s (.refl R) ⟨a,ob,rfl,h2,h3⟩)
  simp [codeAmong,rawInt,hl,hc]
end
def zeX(l:List Arg):Bool:=l.all fun a=>a.annotation.isNone
theorem zb6{env:Env}:∀{l:List Arg},zeX l=true→annotationsOf l env = []
 | [],_=>rfl
 | ⟨x,none,p⟩ :: r,h=>zb6 (l:=r) h
 | ⟨x,some a,p⟩ :: r,h=>nb h
noncomputable def zkZ(a:Arguments):List Arg:=a.args++a.posonlyargs++a.vararg.toList++a.kwonlyargs++a.kwarg.toList
def zoM(fr:Fr)(args:Arguments)(body:List Stmt)(scope:Scope)(pos:Pos)(p:Nat×Nat×Nat):Bool:=args.defaults.isEmpty&&args.kw_defaults.isEmpty&&zdL fr.cel scope.names&&decide ((scope.names.map (·.1)).Nodup)&&Nat.beq pos.line p.2.1&&Nat.beq pos.col p.2.2&&(docOf body).isNone&&zeX (zkZ args)
section
variable {T:Tabs} {P:PM T} {W W₁:Wd} {h h₁:Hp} {s s' s₁:Shared} {A:Around} {E:Value→Shared→Prop} {env:Env} {fr:Fr} {pos:Pos} {p:Nat×Nat×Nat}
theorem zsJ{K:Fl→Hp→Prop}{name bind:Str}{args:Arguments}{body:List Stmt}{scope:Scope}(h4:fr.tab=some p)(ho:zoM fr args body scope pos p=true)
  (H:zhS fr bind (.ref h.nx) (h.new (.clo ⟨name,args,body,scope,none⟩ (zbf fr.cel scope.names []))) fun X h=>K .next h):JS P fr (.FunctionDef name args body [] none [] scope none bind pos) h K:=fun A E Q s W env G F kn=>by
 obtain ⟨t,l,k⟩:=p
 obtain ⟨po,a,va,ko,kd,kwa,d⟩:=args
 simp only [zoM,zkZ,Bool.and_eq_true,decide_eq_true_eq] at ho
 obtain ⟨⟨⟨⟨⟨⟨⟨h1,h2⟩,h3⟩,hd⟩,h5⟩,h6⟩,h7⟩,h8⟩:=ho
 obtain rfl:d = []:=eI h1
 obtain rfl:kd = []:=eI h2
 have c1:=zep F h3 (acc:= []) (accA:= []) fun x t e=>no e
 have c2:∀x,(x,NameKind.free)∈scope.names→∃a,env.cells.lookup x=some a:=fun x hx=>by
  have:=aT h3 _ hx
  obtain ⟨t,et⟩:=iE (show (fr.cel.lookup x).isSome=true from this)
  exact ⟨_,(F.cells x t et).2⟩
 have hclos:closureFor scope env=Pure.pure (zcu env scope.names []):=zbh c2
 show wpAny _ A (exec (.FunctionDef name ⟨po,a,va,ko, [],kwa, []⟩ body [] none [] scope none bind pos) env) Q E s
 rw [arm_exec_FunctionDef]
 unfold defStmt
 simp only [List.isEmpty_nil,Bool.not_true,Bool.false_and,Bool.false_eq_true,if_false,List.map_nil]
 rw [show defaultsOf ⟨po,a,va,ko, [],kwa, []⟩ env=([], []) from rfl]
 refine wB (wP (wB (wpAny_standAt (wB (wH (wB (wP (wB (wH (wP (wH ?_)))))))))))
 rw [show (annotationsOf (a++po++va.toList++ko++kwa.toList) env++((evalOpt none env).map ((("return" :Str),·))).toList) = [] from by rw [zb6 h8];rfl]
 refine wB (wP ?_)
 unfold makeFunction
 simp only [List.zip_nil_right,List.filterMap_nil,List.isEmpty_nil,if_true,pure_bind,hclos,Option.isNone_iff_eq_none.mp h7]
 have rest:∀(ct:Value) (h':Heap),(∀b o,s.heap.get? b=some o→h'.get? b=some o)→s.heap.objs.size≤h'.objs.size→wpAny (model P.c.prog P.c.w) A (do
   let cd←functionCode env pos pos.line name (qualnameIn env name bind) ⟨po,a,va,ko, [],kwa, []⟩ scope (.stmts body)
   let bs←builtinsFor env.globals env.builtins
   let pm←nsGet env.globals "__name__"
   newObj (.type "function") (.func {name:=name,qualname:=qualnameIn env name bind,params:=⟨po,a,va,ko, [],kwa, []⟩,body:= .stmts body,scope:=scope,globals:=env.globals,closure:=zcu env scope.names [],defaults:= .none,kwdefaults:= .none,pyModule:=pm.getD .none,code:=cd,closureTuple:=ct,builtins:=bs}))
   (fun a s'=>wpAny (model P.c.prog P.c.w) A (do
     let f←decorate [].reverse a
     standAt pos
     bindName env bind f
     Pure.pure Flow.next) Q E s') E {s with heap:=h'}:=fun ct h' hk hz=>by
  have S₀:Step P.c h.nx W s W h {s with heap:=h'}:= .keeps G.rel hk rfl rfl hz
  refine wB (zd6 F S₀.rel h4 (qB h5) (qB h6) fun W₁ ca s₁ S₁ V₁=>?_)
  have baseAt:∀b o,P.c.B.get? b=some o→b∉P.c.tabs→s₁.heap.get? b=some o:=S₁.rel.amb.base
  rw [F.glob,F.blt]
  refine wB ((P.S.bf _ s₁.heap baseAt).here ?_)
  obtain ⟨mg,hmg,X⟩:=P.S.gl
  refine wB (wpAny_nsGet (m:=mg) (zef hmg fun o e=>baseAt _ _ e P.S.gt) ?_)
  refine wpAny_newObj_type ?_
  dsimp only [List.reverse_nil,decorate]
  refine wB (wP (wB (wpAny_standAt (wB (wpAny_bindName ?_)))))
  refine zjG (P:=P) (Q:=fun v s'=>wpAny (model P.c.prog P.c.w) A (storeName env bind v) (fun X s=>wpAny (model P.c.prog P.c.w) A (Pure.pure Flow.next) Q E s) E s') (tk:=s₁.toks) (d:=s₁.drawn) S₁.rel rfl (o:= .clo ⟨name,⟨po,a,va,ko, [],kwa, []⟩,body,scope,none⟩ (zbf fr.cel scope.names [])) (fun W' L=>⟨_, .ref ca,rfl,rfl,VR.up L V₁,fun x k e=>?_,rfl,rfl,rfl,rfl,rfl,rfl,rfl⟩) fun W₂ s₂ val S₂ V₂=>?_
  ·have z:=c1 x k e
   exact ⟨Nat.lt_succ_of_lt z.1,z.2.trans (congrArg some (((L.pl k z.1).trans (S₁.le.pl k z.1)).symm))⟩
  ·have S:=(S₀.trans S₁).trans S₂
   exact zcx H A E _ s₂ W₂ (env,val) (G.on S₂) ⟨F.up S.le,V₂⟩ fun X X X X X S₃ X H=>wP (kn (v:= .next) (S.trans S₃) rfl H)
 split
 ·exact rest .none s.heap (fun X X e=>e) (rL _)
 ·exact wB (wpAny_newTextTuple (rest _ _ (fun X X e=>pS _ e) (by rw [Heap.size_push];exact Nat.le_succ _)))
end
set_option genCtorIdx false in
inductive Em where
 | L (elt:Expr) (a:Nat)
 | D (kx vx:Expr) (a:Nat)
set_option genCtorIdx false in
inductive Wt:Type 1
 | lf (p:Prop)
 | en (v:AV) (h:Hp) (p:AV→Hp→Prop)
 | pu {β:Type} (t:Tr β) (k:β→Hp→Wt)
 | fz (v:AV) (h:Hp) (k:AV→Hp→Wt)
 | cl (f:AV) (as:List AV) (kw:List (Str×AV)) (h:Hp) (k:AV→Hp→Wt)
 | gj (fr:Fr) (t:Expr) (ifs:List Expr) (rest:List Comprehension) (em:Em) (it:Nat) (h:Hp) (k:Hp→Wt)
 | fj (wl:Bool) (fr:Fr) (t:Expr) (b:List Stmt) (it:Nat) (h:Hp) (k:Fl→Hp→Wt)
section
variable {T:Tabs} (P:PM T)
def emP(fr:Fr)(em:Em):Hp→(Hp→Prop)→Prop:=Em.casesOn (motive:=fun X=>Hp→(Hp→Prop)→Prop) em (fun elt a=>zkk P elt fr a) fun kx vx a=>zfk P kx vx fr a
structure WhJ(fr:Fr)(t:Expr)(b:List Stmt)(h:Hp)(K:Fl→Hp→Prop):Prop where
 go:∃(I:Nat→Hp→Prop) (k:Nat),I k h∧∀k h',I k h'→JT P fr t h' fun c h'=>Br c (JSs P fr b h' (turn (On I h.nx k) K)) (K .next h')
def LpJ(wl:Bool)(fr:Fr)(t:Expr)(b:List Stmt)(it:Nat)(h:Hp)(K:Fl→Hp→Prop):Prop:=cond wl (WhJ P fr t b h K) (ForJ P fr t b it h K)
def Wt.sem:Wt→Prop
 | .lf p=>p
 | .en v h p=>p v h
 | .pu t k=>t.sem fun a h=>(k a h).sem
 | .fz v h k=>frz v h fun a h=>(k a h).sem
 | .cl f as kw h k=>za6 P f as kw h fun a h=>(k a h).sem
 | .gj fr t ifs rest em it h k=>GJ P fr t ifs (zgf P fr (emP P fr em) rest) it h fun h=>(k h).sem
 | .fj wl fr t b it h k=>LpJ P wl fr t b it h fun x h=>(k x h).sem
end
noncomputable def rqW(b:Bool)(h:Hp)(X:Wt):Wt:= .pu (.rq b (.ret () h)) fun Z Z=>X
noncomputable def RqW(b:Bool)(h:Hp)(X:Wt):Wt:= .pu (.Rq b (.ret () h)) fun Z Z=>X
noncomputable def osW{α:Type}(o:Option α)(h:Hp)(k:α→Wt):Wt:= .pu (.os o fun a=> .ret a h) fun a X=>k a
noncomputable def bsW(b:Bool)(h:Hp)(X Y:Wt):Wt:= .pu (.bs b (.ret true h) (.ret false h)) fun b Z=>cond b X Y
noncomputable def BrW(b:Bool)(h:Hp)(X Y:Wt):Wt:= .pu (.Br b (.ret true h) (.ret false h)) fun b Z=>cond b X Y
set_option genCtorIdx false in
inductive Cd:Type 1
 | E (e:Expr) (K:AV→Hp→Wt)
 | T (e:Expr) (K:Bool→Hp→Wt)
 | Ts (op:BoolOp) (es:List Expr) (K:Bool→Hp→Wt)
 | B (op:BoolOp) (es:List Expr) (K:AV→Hp→Wt)
 | Es (es:List Expr) (K:List AV→Hp→Wt)
 | O (e:Option Expr) (K:AV→Hp→Wt)
 | Kw (ks:List Keyword) (K:List (Str×AV)→Hp→Wt)
 | S (s:Stmt) (K:Fl→Hp→Wt)
 | Ss (s:List Stmt) (K:Fl→Hp→Wt)
 | A (t:Expr) (v:AV) (K:Unit→Hp→Wt)
 | L (es:List Expr) (K:Bool→Hp→Wt)
section
variable {T:Tabs} (P:PM T) (fr:Fr)
def kS{β:Type}(K:β→Hp→Wt)(a:β)(h:Hp):Prop:=(K a h).sem P
def sem(c:Cd)(h:Hp):Prop:=Cd.casesOn (motive:=fun X=>Prop) c (fun e K=>JE P fr e h (kS P K)) (fun e K=>JT P fr e h (kS P K)) (fun op es K=>JTs P fr op es h (kS P K)) (fun op es K=>JB' P fr op es h (kS P K)) (fun es K=>JEs P fr es h (kS P K)) (fun e K=>JO P fr e h (kS P K)) (fun ks' K=>JK P fr ks' h (kS P K)) (fun s K=>JS P fr s h (kS P K)) (fun s K=>JSs P fr s h (kS P K)) (fun t v K=>JA' P fr t v h (kS P K)) (fun es K=>zpZ P fr es h (kS P K))
variable (rec:Cd→Hp→Wt)
def zhz(f:AV)(as:List AV)(kw:List (Str×AV))(h:Hp)(K:AV→Hp→Wt):Wt:=Option.casesOn (motive:=fun X=>Wt) f.bi? (Option.casesOn (motive:=fun X=>Wt) f.ty? (.cl f as kw h K) fun m=> .pu (.rq kw.isEmpty (znP m as h)) K) fun m=> .pu (.rq kw.isEmpty (znR m as h)) K
def znQ(m:MR)(as:List AV)(kw:List (Str×AV))(h:Hp)(K:AV→Hp→Wt):Wt:=MR.casesOn (motive:=fun X=>Wt) m (fun b self=> .pu (.rq kw.isEmpty (znS T b (self :: as) h)) K) fun f first=>zhz f (first++as) kw h K
def zr0(K:AV→Hp→Wt)(v:AV)(L:Nat)(h:Hp):Wt:= .fz v h fun v h=> .pu (zuf L h) fun X h=>K v h
def zrO(f:Expr)(as:List Expr)(ks:List Keyword)(pos:Pos)(h:Hp)(K:AV→Hp→Wt):Wt:=Expr.casesOn (motive_1:=fun X=>Wt) f (fun X X X=> .lf (JE P fr (.Call f as ks pos) h (kS P K))) (fun X X X=> .lf (JE P fr (.Call f as ks pos) h (kS P K))) (fun X X X X=> .lf (JE P fr (.Call f as ks pos) h (kS P K))) (fun X X X=> .lf (JE P fr (.Call f as ks pos) h (kS P K))) (fun X X X X=> .lf (JE P fr (.Call f as ks pos) h (kS P K))) (fun X X X X=> .lf (JE P fr (.Call f as ks pos) h (kS P K))) (fun X X X=> .lf (JE P fr (.Call f as ks pos) h (kS P K))) (fun X X X=> .lf (JE P fr (.Call f as ks pos) h (kS P K))) (fun X X X X=> .lf (JE P fr (.Call f as ks pos) h (kS P K))) (fun X X X X=> .lf (JE P fr (.Call f as ks pos) h (kS P K))) (fun X X X X X=> .lf (JE P fr (.Call f as ks pos) h (kS P K))) (fun X X X X=> .lf (JE P fr (.Call f as ks pos) h (kS P K))) (fun X X=> .lf (JE P fr (.Call f as ks pos) h (kS P K))) (fun X X=> .lf (JE P fr (.Call f as ks pos) h (kS P K))) (fun X X=> .lf (JE P fr (.Call f as ks pos) h (kS P K))) (fun X X X X=> .lf (JE P fr (.Call f as ks pos) h (kS P K))) (fun X X X X=> .lf (JE P fr (.Call f as ks pos) h (kS P K))) (fun X X X X=> .lf (JE P fr (.Call f as ks pos) h (kS P K))) (fun X X=> .lf (JE P fr (.Call f as ks pos) h (kS P K))) (fun X X X=> .lf (JE P fr (.Call f as ks pos) h (kS P K))) (fun o x p=>rqW (!zdH o&&zba as&&zbz ks&&Nat.blt (as.length+ks.length) 29&&Nat.beq p.endLine pos.line) h (rec (.E o fun ov h=> .pu (zgG T ov x h) fun m h=>rec (.Es as fun vs h=>rec (.Kw ks fun kw h=>znQ (T:=T) m vs kw h K) h) h) h)) (fun X X X=> .lf (JE P fr (.Call f as ks pos) h (kS P K))) (fun X X=> .lf (JE P fr (.Call f as ks pos) h (kS P K))) (fun x X=>rqW (zba as&&zbz ks) h (.pu (zm3 (T:=T) fr x h) fun f h=>rec (.Es as fun vs h=>rec (.Kw ks fun kw h=>zhz f vs kw h K) h) h)) (fun X X=> .lf (JE P fr (.Call f as ks pos) h (kS P K))) (fun X X X=> .lf (JE P fr (.Call f as ks pos) h (kS P K))) (fun X X X X=> .lf (JE P fr (.Call f as ks pos) h (kS P K)))
def zub(o i:Expr)(pos:Pos)(h:Hp)(K:AV→Hp→Wt):Wt:=Expr.casesOn (motive_1:=fun X=>Wt) i (fun X X X=>rec (.E o fun a h=>rec (.E i fun b h=>(.pu (zau a b h) K)) h) h) (fun X X X=>rec (.E o fun a h=>rec (.E i fun b h=>(.pu (zau a b h) K)) h) h) (fun X X X X=>rec (.E o fun a h=>rec (.E i fun b h=>(.pu (zau a b h) K)) h) h) (fun X X X=>rec (.E o fun a h=>rec (.E i fun b h=>(.pu (zau a b h) K)) h) h) (fun X X X X=>rec (.E o fun a h=>rec (.E i fun b h=>(.pu (zau a b h) K)) h) h) (fun X X X X=>rec (.E o fun a h=>rec (.E i fun b h=>(.pu (zau a b h) K)) h) h) (fun X X X=>rec (.E o fun a h=>rec (.E i fun b h=>(.pu (zau a b h) K)) h) h) (fun X X X=>rec (.E o fun a h=>rec (.E i fun b h=>(.pu (zau a b h) K)) h) h) (fun X X X X=>rec (.E o fun a h=>rec (.E i fun b h=>(.pu (zau a b h) K)) h) h) (fun X X X X=>rec (.E o fun a h=>rec (.E i fun b h=>(.pu (zau a b h) K)) h) h) (fun X X X X X=>rec (.E o fun a h=>rec (.E i fun b h=>(.pu (zau a b h) K)) h) h) (fun X X X X=>rec (.E o fun a h=>rec (.E i fun b h=>(.pu (zau a b h) K)) h) h) (fun X X=>rec (.E o fun a h=>rec (.E i fun b h=>(.pu (zau a b h) K)) h) h) (fun X X=>rec (.E o fun a h=>rec (.E i fun b h=>(.pu (zau a b h) K)) h) h) (fun X X=>rec (.E o fun a h=>rec (.E i fun b h=>(.pu (zau a b h) K)) h) h) (fun X X X X=>rec (.E o fun a h=>rec (.E i fun b h=>(.pu (zau a b h) K)) h) h) (fun X X X X=>rec (.E o fun a h=>rec (.E i fun b h=>(.pu (zau a b h) K)) h) h) (fun X X X X=>rec (.E o fun a h=>rec (.E i fun b h=>(.pu (zau a b h) K)) h) h) (fun X X=>rec (.E o fun a h=>rec (.E i fun b h=>(.pu (zau a b h) K)) h) h) (fun X X X=>rec (.E o fun a h=>rec (.E i fun b h=>(.pu (zau a b h) K)) h) h) (fun X X X=>rec (.E o fun a h=>rec (.E i fun b h=>(.pu (zau a b h) K)) h) h) (fun X X X=>rec (.E o fun a h=>rec (.E i fun b h=>(.pu (zau a b h) K)) h) h) (fun X X=>rec (.E o fun a h=>rec (.E i fun b h=>(.pu (zau a b h) K)) h) h) (fun X X=>rec (.E o fun a h=>rec (.E i fun b h=>(.pu (zau a b h) K)) h) h) (fun X X=>rec (.E o fun a h=>rec (.E i fun b h=>(.pu (zau a b h) K)) h) h) (fun X X X=>rec (.E o fun a h=>rec (.E i fun b h=>(.pu (zau a b h) K)) h) h) (fun lo hi st X=>rec (.E o fun ov h=>rec (.O lo fun l h=>rec (.O hi fun u h=>rec (.O st fun k h=>(.pu (zuy ov l u k h) K)) h) h) h) h)
noncomputable def znK(c:Const)(k:Nat)(pos:Pos)(h:Hp)(K:AV→Hp→Wt):Wt:=match c with | .none=>K .none h | .bool b=>K (.bool b) h | .int i=>K (.int i) h | .str s=>K (.str s.cps.toList) h | c=> .lf (JE P fr (.Constant c k pos) h (kS P K))
def ztH(l:Expr)(ops:List CmpOp)(rs:List Expr)(pos:Pos)(h:Hp)(K:AV→Hp→Wt):Wt:=bif ops.tail.isEmpty&&rs.tail.isEmpty then Option.casesOn (motive:=fun X=>Wt) ops.head? (.lf (JE P fr (.Compare l ops rs pos) h (kS P K))) fun op=>Option.casesOn (motive:=fun X=>Wt) rs.head? (.lf (JE P fr (.Compare l ops rs pos) h (kS P K))) fun r=>rqW (!behindInMarks op r) h (rec (.E l fun a h=>rec (.E r fun b h=> .pu (ztG T op a b h) K) h) h) else .lf (JE P fr (.Compare l ops rs pos) h (kS P K))
def ztF(l:Expr)(ops:List CmpOp)(rs:List Expr)(pos:Pos)(h:Hp)(K:Bool→Hp→Wt):Wt:=bif ops.tail.isEmpty&&rs.tail.isEmpty then Option.casesOn (motive:=fun X=>Wt) ops.head? (.lf (JT P fr (.Compare l ops rs pos) h (kS P K))) fun op=>Option.casesOn (motive:=fun X=>Wt) rs.head? (.lf (JT P fr (.Compare l ops rs pos) h (kS P K))) fun r=>rqW (!behindInMarks op r) h (rec (.E l fun a h=>rec (.E r fun b h=> .pu (ztG T op a b h) fun c h=> .pu (zaU c h .ret) K) h) h) else .lf (JT P fr (.Compare l ops rs pos) h (kS P K))
def zmF(e:Expr)(K:AV→Nat→Hp→Wt)(h:Hp):Wt:=Expr.casesOn (motive_1:=fun X=>Wt) e (fun X X X=> .lf (JC P fr e h fun v L h=>(K v L h).sem P)) (fun X X X=> .lf (JC P fr e h fun v L h=>(K v L h).sem P)) (fun X X X X=> .lf (JC P fr e h fun v L h=>(K v L h).sem P)) (fun X X X=> .lf (JC P fr e h fun v L h=>(K v L h).sem P)) (fun X X X X=> .lf (JC P fr e h fun v L h=>(K v L h).sem P)) (fun X X X X=> .lf (JC P fr e h fun v L h=>(K v L h).sem P)) (fun X X X=> .lf (JC P fr e h fun v L h=>(K v L h).sem P)) (fun X X X=> .lf (JC P fr e h fun v L h=>(K v L h).sem P)) (fun elt gens sc pos=>List.casesOn (motive:=fun X=>Wt) gens (.lf (JC P fr (.ListComp elt gens sc pos) h fun v L h=>(K v L h).sem P)) fun g rest=>rqW (decide (g.is_async=0)&&zf0 fr g.iter rest sc) h (rec (.E g.iter fun x h=> .pu (zk0 x h) fun v h=>osW v.ref? h fun it=>rqW (zny (h.at_ it)) h (.gj (zb4 (h.new (.list false [])) sc (zbf fr.cel sc.names []) none) g.target g.ifs rest (.L elt h.nx) it (zbq (h.new (.list false [])) sc) (K (.ref h.nx) (h.nx+1)))) h)) (fun X X X X=> .lf (JC P fr e h fun v L h=>(K v L h).sem P)) (fun kx vx gens sc pos=>List.casesOn (motive:=fun X=>Wt) gens (.lf (JC P fr (.DictComp kx vx gens sc pos) h fun v L h=>(K v L h).sem P)) fun g rest=>rqW (decide (g.is_async=0)&&zf0 fr g.iter rest sc) h (rec (.E g.iter fun x h=> .pu (zk0 x h) fun v h=>osW v.ref? h fun it=>rqW (zny (h.at_ it)) h (.gj (zb4 (h.new (.dict false [])) sc (zbf fr.cel sc.names []) none) g.target g.ifs rest (.D kx vx h.nx) it (zbq (h.new (.dict false [])) sc) (K (.ref h.nx) (h.nx+1)))) h)) (fun X X X X=> .lf (JC P fr e h fun v L h=>(K v L h).sem P)) (fun X X=> .lf (JC P fr e h fun v L h=>(K v L h).sem P)) (fun X X=> .lf (JC P fr e h fun v L h=>(K v L h).sem P)) (fun X X=> .lf (JC P fr e h fun v L h=>(K v L h).sem P)) (fun X X X X=> .lf (JC P fr e h fun v L h=>(K v L h).sem P)) (fun X X X X=> .lf (JC P fr e h fun v L h=>(K v L h).sem P)) (fun X X X X=> .lf (JC P fr e h fun v L h=>(K v L h).sem P)) (fun X X=> .lf (JC P fr e h fun v L h=>(K v L h).sem P)) (fun X X X=> .lf (JC P fr e h fun v L h=>(K v L h).sem P)) (fun X X X=> .lf (JC P fr e h fun v L h=>(K v L h).sem P)) (fun X X X=> .lf (JC P fr e h fun v L h=>(K v L h).sem P)) (fun X X=> .lf (JC P fr e h fun v L h=>(K v L h).sem P)) (fun X X=> .lf (JC P fr e h fun v L h=>(K v L h).sem P)) (fun X X=> .lf (JC P fr e h fun v L h=>(K v L h).sem P)) (fun X X X=> .lf (JC P fr e h fun v L h=>(K v L h).sem P)) (fun X X X X=> .lf (JC P fr e h fun v L h=>(K v L h).sem P))
def zsm(es:List Expr)(k:Nat):Option Expr:=bif Nat.beq k 0&&es.tail.isEmpty&&(es.head?.any ztq) then es.head? else none
def zt3(h:Hp)(K:AV→Hp→Wt)(v:AV)(h':Hp):Wt:=osW v.int? h' fun i=>osW (h'.at_ h.nx).set? h' fun xs=>rqW xs.isEmpty h' (K (.ref h.nx) (h'.set h.nx (.set [.int i])))
def zqL(e:Expr)(K:AV→Hp→Wt)(h:Hp):Wt:=Expr.casesOn (motive_1:=fun X=>Wt) e (fun op vs X=>rec (.B op vs K) h) (fun X X X=> .lf (JE P fr e h (kS P K))) (fun l op r X=>rec (.E l fun a h=>rec (.E r fun b h=> .pu (zuC op a b h) K) h) h) (fun op x X=>rec (.E x fun a h=> .pu (unO op a h) K) h) (fun X X X X=> .lf (JE P fr e h (kS P K))) (fun t b d X=>rec (.T t fun c h=>BrW c h (rec (.E b K) h) (rec (.E d K) h)) h) (fun ks vs pos=>List.casesOn (motive:=fun X=>Wt) ks (List.casesOn (motive:=fun X=>Wt) vs (K (.ref h.nx) (h.new (.dict false []))) fun a r=> .lf (JE P fr (.Dict [] (a :: r) pos) h (kS P K))) fun a r=> .lf (JE P fr (.Dict (a :: r) vs pos) h (kS P K))) (fun es k pos=>Option.casesOn (motive:=fun X=>Wt) (zsm es k) (.lf (JE P fr e h (kS P K))) fun x=>rqW fr.tab.isSome h (rec (.E x (zt3 h K)) (h.new (.set [])))) (fun X X X X=>zmF P fr rec e (zr0 K) h) (fun X X X X=> .lf (JE P fr e h (kS P K))) (fun X X X X X=>zmF P fr rec e (zr0 K) h) (fun X X X X=> .lf (JE P fr e h (kS P K))) (fun X X=> .lf (JE P fr e h (kS P K))) (fun X X=> .lf (JE P fr e h (kS P K))) (fun X X=> .lf (JE P fr e h (kS P K))) (fun l ops rs pos=>ztH P fr rec l ops rs pos h K) (fun f as ks pos=>zrO P fr rec f as ks pos h K) (fun X X X X=> .lf (JE P fr e h (kS P K))) (fun X X=> .lf (JE P fr e h (kS P K))) (fun c k pos=>znK P fr c k pos h K) (fun o x X=>rqW (!zdH o) h (rec (.E o fun ov h=> .pu (zpj T ov x.cps.toList h) K) h)) (fun o i pos=>zub rec o i pos h K) (fun X X=> .lf (JE P fr e h (kS P K))) (fun x X=> .pu (zm3 (T:=T) fr x h) K) (fun es X=>rqW (zba es) h (rec (.Es es fun vs h=> .pu (zuh vs h) K) h)) (fun es X X=>rqW (zba es) h (rec (.Es es fun vs h=>rqW (Nat.blt vs.length 1000) h (osW (svs vs) h fun xs=>K (.tup xs) h)) h)) (fun X X X X=> .lf (JE P fr e h (kS P K)))
def unT(op:UnaryOp)(x e:Expr)(h:Hp)(K:Bool→Hp→Wt):Wt:=UnaryOp.casesOn (motive:=fun X=>Wt) op (rec (.E e fun v h=> .pu (zaU v h .ret) K) h) (rec (.T x fun b h=>K (!b) h) h) (rec (.E e fun v h=> .pu (zaU v h .ret) K) h) (rec (.E e fun v h=> .pu (zaU v h .ret) K) h)
def zqH(e:Expr)(K:Bool→Hp→Wt)(h:Hp):Wt:=Expr.casesOn (motive_1:=fun X=>Wt) e (fun op vs X=>rec (.Ts op vs K) h) (fun X X X=> .lf (JT P fr e h (kS P K))) (fun X X X X=>rec (.E e fun v h=> .pu (zaU v h .ret) K) h) (fun op x X=>unT rec op x e h K) (fun X X X X=> .lf (JT P fr e h (kS P K))) (fun t b d X=>rec (.T t fun c h=>BrW c h (rec (.T b K) h) (rec (.T d K) h)) h) (fun X X X=> .lf (JT P fr e h (kS P K))) (fun X X X=> .lf (JT P fr e h (kS P K))) (fun X X X X=> .lf (JT P fr e h (kS P K))) (fun X X X X=> .lf (JT P fr e h (kS P K))) (fun X X X X X=> .lf (JT P fr e h (kS P K))) (fun X X X X=> .lf (JT P fr e h (kS P K))) (fun X X=> .lf (JT P fr e h (kS P K))) (fun X X=> .lf (JT P fr e h (kS P K))) (fun X X=> .lf (JT P fr e h (kS P K))) (fun l ops rs pos=>ztF P fr rec l ops rs pos h K) (fun X X X X=>rec (.E e fun v h=> .pu (zaU v h .ret) K) h) (fun X X X X=> .lf (JT P fr e h (kS P K))) (fun X X=> .lf (JT P fr e h (kS P K))) (fun X X X=>rec (.E e fun v h=> .pu (zaU v h .ret) K) h) (fun X X X=>rec (.E e fun v h=> .pu (zaU v h .ret) K) h) (fun X X X=> .lf (JT P fr e h (kS P K))) (fun X X=> .lf (JT P fr e h (kS P K))) (fun X X=>rec (.E e fun v h=> .pu (zaU v h .ret) K) h) (fun X X=> .lf (JT P fr e h (kS P K))) (fun X X X=> .lf (JT P fr e h (kS P K))) (fun X X X X=> .lf (JT P fr e h (kS P K)))
def zqG(op:BoolOp)(es:List Expr)(K:Bool→Hp→Wt)(h:Hp):Wt:=List.casesOn (motive:=fun X=>Wt) es (K (zrj op) h) fun e r=>rec (.T e fun b h=>BoolOp.casesOn (motive:=fun X=>Wt) op (BrW b h (rec (.Ts op r K) h) (K false h)) (BrW b h (K true h) (rec (.Ts op r K) h))) h
def zt1(op:BoolOp)(es:List Expr)(K:AV→Hp→Wt)(h:Hp):Wt:=List.casesOn (motive:=fun X=>Wt) es (.lf (JB' P fr op [] h (kS P K))) fun e r=>List.casesOn (motive:=fun X=>Wt) r (rec (.E e K) h) fun l r=>BoolOp.casesOn (motive:=fun X=>Wt) op (rec (.E e fun v h=> .pu (zaU v h .ret) fun t h=>BrW t h (rec (.B .And (l :: r) K) h) (K v h)) h) (.lf (JB' P fr .Or (e :: l :: r) h (kS P K)))
noncomputable def zqK(es:List Expr)(K:List AV→Hp→Wt)(h:Hp):Wt:=List.casesOn (motive:=fun X=>Wt) es (K [] h) fun e r=>rec (.E e fun v h=>rec (.Es r fun vs h=>K (v :: vs) h) h) h
noncomputable def zsZ(e:Option Expr)(K:AV→Hp→Wt)(h:Hp):Wt:=Option.casesOn (motive:=fun X=>Wt) e (K .none h) fun e=>rec (.E e K) h
noncomputable def zqJ(ks:List Keyword)(K:List (Str×AV)→Hp→Wt)(h:Hp):Wt:=List.casesOn (motive:=fun X=>Wt) ks (K [] h) fun k r=>Option.casesOn (motive:=fun X=>Wt) k.arg (.lf (JK P fr ks h (kS P K))) fun x=>rec (.E k.value fun v h=>rec (.Kw r fun vs h=>K ((x,v) :: vs) h) h) h
noncomputable def zgU(e:Expr):Option Str:=Expr.casesOn (motive_1:=fun X=>Option Str) e (fun X X X=>none) (fun X X X=>none) (fun X X X X=>none) (fun X X X=>none) (fun X X X X=>none) (fun X X X X=>none) (fun X X X=>none) (fun X X X=>none) (fun X X X X=>none) (fun X X X X=>none) (fun X X X X X=>none) (fun X X X X=>none) (fun X X=>none) (fun X X=>none) (fun X X=>none) (fun X X X X=>none) (fun X X X X=>none) (fun X X X X=>none) (fun X X=>none) (fun X X X=>none) (fun X X X=>none) (fun X X X=>none) (fun X X=>none) (fun x X=>some x) (fun X X=>none) (fun X X X=>none) (fun X X X X=>none)
def two(es:List Expr):Option (Str×Str):=List.casesOn (motive:=fun X=>Option (Str×Str)) es none fun a r=>bif r.tail.isEmpty then (zgU a).bind fun x=>r.head?.bind fun b=>(zgU b).map fun y=>(x,y) else none
def zqM(t:Expr)(v:AV)(K:Unit→Hp→Wt)(h:Hp):Wt:=Expr.casesOn (motive_1:=fun X=>Wt) t (fun X X X=> .lf (JA' P fr t v h (kS P K))) (fun X X X=> .lf (JA' P fr t v h (kS P K))) (fun X X X X=> .lf (JA' P fr t v h (kS P K))) (fun X X X=> .lf (JA' P fr t v h (kS P K))) (fun X X X X=> .lf (JA' P fr t v h (kS P K))) (fun X X X X=> .lf (JA' P fr t v h (kS P K))) (fun X X X=> .lf (JA' P fr t v h (kS P K))) (fun X X X=> .lf (JA' P fr t v h (kS P K))) (fun X X X X=> .lf (JA' P fr t v h (kS P K))) (fun X X X X=> .lf (JA' P fr t v h (kS P K))) (fun X X X X X=> .lf (JA' P fr t v h (kS P K))) (fun X X X X=> .lf (JA' P fr t v h (kS P K))) (fun X X=> .lf (JA' P fr t v h (kS P K))) (fun X X=> .lf (JA' P fr t v h (kS P K))) (fun X X=> .lf (JA' P fr t v h (kS P K))) (fun X X X X=> .lf (JA' P fr t v h (kS P K))) (fun X X X X=> .lf (JA' P fr t v h (kS P K))) (fun X X X X=> .lf (JA' P fr t v h (kS P K))) (fun X X=> .lf (JA' P fr t v h (kS P K))) (fun X X X=> .lf (JA' P fr t v h (kS P K))) (fun o x X=>rec (.E o fun ov h=> .pu (zoE T ov x.cps.toList v h) K) h) (fun o i X=>rec (.E o fun ov h=>rec (.E i fun iv h=> .pu (ze7 ov iv v h) K) h) h) (fun X X=> .lf (JA' P fr t v h (kS P K))) (fun x X=> .pu (zcH fr x v h fun h=> .ret () h) K) (fun X X=> .lf (JA' P fr t v h (kS P K))) (fun es X X=>Option.casesOn (motive:=fun X=>Wt) (two es) (.lf (JA' P fr t v h (kS P K))) fun p=> .pu (zcJ fr p.1 p.2 v h) K) (fun X X X X=> .lf (JA' P fr t v h (kS P K)))
def zt0(es:List Expr)(K:Bool→Hp→Wt)(h:Hp):Wt:=List.casesOn (motive:=fun X=>Wt) es (K true h) fun e r=>rec (.T e fun b h=>BrW b h (rec (.L r K) h) (K false h)) h
noncomputable def isLD(e:Expr):Bool:=Expr.casesOn (motive_1:=fun X=>Bool) e (fun X X X=>false) (fun X X X=>false) (fun X X X X=>false) (fun X X X=>false) (fun X X X X=>false) (fun X X X X=>false) (fun X X X=>false) (fun X X X=>false) (fun X X X X=>true) (fun X X X X=>false) (fun X X X X X=>true) (fun X X X X=>false) (fun X X=>false) (fun X X=>false) (fun X X=>false) (fun X X X X=>false) (fun X X X X=>false) (fun X X X X=>false) (fun X X=>false) (fun X X X=>false) (fun X X X=>false) (fun X X X=>false) (fun X X=>false) (fun X X=>false) (fun X X=>false) (fun X X X=>false) (fun X X X X=>false)
def zuE(t e:Expr)(pos:Pos)(h:Hp)(K:Fl→Hp→Wt):Wt:=Expr.casesOn (motive_1:=fun X=>Wt) t (fun X X X=> .lf (JS P fr (.Assign [t] e pos) h (kS P K))) (fun X X X=> .lf (JS P fr (.Assign [t] e pos) h (kS P K))) (fun X X X X=> .lf (JS P fr (.Assign [t] e pos) h (kS P K))) (fun X X X=> .lf (JS P fr (.Assign [t] e pos) h (kS P K))) (fun X X X X=> .lf (JS P fr (.Assign [t] e pos) h (kS P K))) (fun X X X X=> .lf (JS P fr (.Assign [t] e pos) h (kS P K))) (fun X X X=> .lf (JS P fr (.Assign [t] e pos) h (kS P K))) (fun X X X=> .lf (JS P fr (.Assign [t] e pos) h (kS P K))) (fun X X X X=> .lf (JS P fr (.Assign [t] e pos) h (kS P K))) (fun X X X X=> .lf (JS P fr (.Assign [t] e pos) h (kS P K))) (fun X X X X X=> .lf (JS P fr (.Assign [t] e pos) h (kS P K))) (fun X X X X=> .lf (JS P fr (.Assign [t] e pos) h (kS P K))) (fun X X=> .lf (JS P fr (.Assign [t] e pos) h (kS P K))) (fun X X=> .lf (JS P fr (.Assign [t] e pos) h (kS P K))) (fun X X=> .lf (JS P fr (.Assign [t] e pos) h (kS P K))) (fun X X X X=> .lf (JS P fr (.Assign [t] e pos) h (kS P K))) (fun X X X X=> .lf (JS P fr (.Assign [t] e pos) h (kS P K))) (fun X X X X=> .lf (JS P fr (.Assign [t] e pos) h (kS P K))) (fun X X=> .lf (JS P fr (.Assign [t] e pos) h (kS P K))) (fun X X X=> .lf (JS P fr (.Assign [t] e pos) h (kS P K))) (fun X X X=>rec (.E e fun v h=>rec (.A t v fun X h=>K .next h) h) h) (fun X X X=>rec (.E e fun v h=>rec (.A t v fun X h=>K .next h) h) h) (fun X X=> .lf (JS P fr (.Assign [t] e pos) h (kS P K))) (fun X X=>rec (.E e fun v h=>rec (.A t v fun X h=>K .next h) h) h) (fun X X=> .lf (JS P fr (.Assign [t] e pos) h (kS P K))) (fun es X X=>Option.casesOn (motive:=fun X=>Wt) (two es) (.lf (JS P fr (.Assign [t] e pos) h (kS P K))) fun p=>rqW (zsn e) h (rec (.E e fun v h=> .pu (zcJ fr p.1 p.2 v h) fun X h=>K .next h) h)) (fun X X X X=> .lf (JS P fr (.Assign [t] e pos) h (kS P K)))
def zuF(t e:Expr)(pos:Pos)(h:Hp)(K:Fl→Hp→Wt):Wt:=bsW (zbd e) h (bsW (isLD e) h (osW (zgU t) h fun x=>zmF P fr rec e (zr0 fun v h=> .pu (zcH fr x v h fun h=> .ret () h) fun X h=>K .next h) h) (.lf (JS P fr (.Assign [t] e pos) h (kS P K)))) (zuE P fr rec t e pos h K)
def zuD(t:Expr)(op:Operator)(e:Expr)(pos:Pos)(h:Hp)(K:Fl→Hp→Wt):Wt:=Expr.casesOn (motive_1:=fun X=>Wt) t (fun X X X=> .lf (JS P fr (.AugAssign t op e pos) h (kS P K))) (fun X X X=> .lf (JS P fr (.AugAssign t op e pos) h (kS P K))) (fun X X X X=> .lf (JS P fr (.AugAssign t op e pos) h (kS P K))) (fun X X X=> .lf (JS P fr (.AugAssign t op e pos) h (kS P K))) (fun X X X X=> .lf (JS P fr (.AugAssign t op e pos) h (kS P K))) (fun X X X X=> .lf (JS P fr (.AugAssign t op e pos) h (kS P K))) (fun X X X=> .lf (JS P fr (.AugAssign t op e pos) h (kS P K))) (fun X X X=> .lf (JS P fr (.AugAssign t op e pos) h (kS P K))) (fun X X X X=> .lf (JS P fr (.AugAssign t op e pos) h (kS P K))) (fun X X X X=> .lf (JS P fr (.AugAssign t op e pos) h (kS P K))) (fun X X X X X=> .lf (JS P fr (.AugAssign t op e pos) h (kS P K))) (fun X X X X=> .lf (JS P fr (.AugAssign t op e pos) h (kS P K))) (fun X X=> .lf (JS P fr (.AugAssign t op e pos) h (kS P K))) (fun X X=> .lf (JS P fr (.AugAssign t op e pos) h (kS P K))) (fun X X=> .lf (JS P fr (.AugAssign t op e pos) h (kS P K))) (fun X X X X=> .lf (JS P fr (.AugAssign t op e pos) h (kS P K))) (fun X X X X=> .lf (JS P fr (.AugAssign t op e pos) h (kS P K))) (fun X X X X=> .lf (JS P fr (.AugAssign t op e pos) h (kS P K))) (fun X X=> .lf (JS P fr (.AugAssign t op e pos) h (kS P K))) (fun X X X=> .lf (JS P fr (.AugAssign t op e pos) h (kS P K))) (fun o x X=>rec (.E o fun ov h=> .pu (zpj T ov x.cps.toList h) fun a h=>rec (.E e fun b h=> .pu (zsz op a b h) fun c h=> .pu (zoE T ov x.cps.toList c h) fun X h=>K .next h) h) h) (fun o i X=>rqW (!zuj i) h (rec (.E o fun ov h=>rec (.E i fun iv h=> .pu (zau ov iv h) fun a h=>rec (.E e fun b h=> .pu (zsz op a b h) fun c h=> .pu (ze7 ov iv c h) fun X h=>K .next h) h) h) h)) (fun X X=> .lf (JS P fr (.AugAssign t op e pos) h (kS P K))) (fun x X=> .pu (zm3 (T:=T) fr x h) fun a h=>rec (.E e fun b h=> .pu (zsz op a b h) fun c h=> .pu (zcH fr x c h fun h=> .ret () h) fun X h=>K .next h) h) (fun X X=> .lf (JS P fr (.AugAssign t op e pos) h (kS P K))) (fun X X X=> .lf (JS P fr (.AugAssign t op e pos) h (kS P K))) (fun X X X X=> .lf (JS P fr (.AugAssign t op e pos) h (kS P K)))
def ztE(name:Str)(args:Arguments)(body:List Stmt)(decs:List Expr)(ret:Option Expr)(tps:List TypeParam)(scope:Scope)(doc:Option Scope)(bind:Str)(pos:Pos)(h:Hp)(K:Fl→Hp→Wt):Wt:=bif decs.isEmpty&&(ret.isNone&&(tps.isEmpty&&doc.isNone)) then Option.casesOn (motive:=fun X=>Wt) fr.tab (.lf (JS P fr (.FunctionDef name args body decs ret tps scope doc bind pos) h (kS P K))) fun p=>rqW (zoM fr args body scope pos p) h (.pu (zcH fr bind (.ref h.nx) (h.new (.clo ⟨name,args,body,scope,none⟩ (zbf fr.cel scope.names []))) fun h=> .ret () h) fun X h=>K .next h) else .lf (JS P fr (.FunctionDef name args body decs ret tps scope doc bind pos) h (kS P K))
def zqI(s:Stmt)(K:Fl→Hp→Wt)(h:Hp):Wt:=Stmt.casesOn (motive_2:=fun X=>Wt) s (fun name args body decs ret tps scope doc bind pos=>ztE P fr name args body decs ret tps scope doc bind pos h K) (fun X X X X X X X X X X=> .lf (JS P fr s h (kS P K))) (fun X X X X X X X X X X X=> .lf (JS P fr s h (kS P K))) (fun e X=>Option.casesOn (motive:=fun X=>Wt) e (K (.ret .none) h) fun e=>rec (.E e fun v h=>K (.ret v) h) h) (fun X X=> .lf (JS P fr s h (kS P K))) (fun ts e pos=>List.casesOn (motive:=fun X=>Wt) ts (.lf (JS P fr (.Assign [] e pos) h (kS P K))) fun t r=>List.casesOn (motive:=fun X=>Wt) r (zuF P fr rec t e pos h K) fun t2 r=> .lf (JS P fr (.Assign (t :: t2 :: r) e pos) h (kS P K))) (fun X X X X X X X=> .lf (JS P fr s h (kS P K))) (fun t op e pos=>zuD P fr rec t op e pos h K) (fun X X X X X=> .lf (JS P fr s h (kS P K))) (fun t i b d pos=>List.casesOn (motive:=fun X=>Wt) d (rqW (!zgb i) h (rec (.E i fun x h=> .pu (zk0 x h) fun v h=>osW v.ref? h fun it=>Wt.fj false fr t b it h K) h)) fun x r=> .lf (JS P fr (.For t i b (x :: r) pos) h (kS P K))) (fun X X X X X=> .lf (JS P fr s h (kS P K))) (fun t b d pos=>List.casesOn (motive:=fun X=>Wt) d (.fj true fr t b 0 h K) fun x r=> .lf (JS P fr (.While t b (x :: r) pos) h (kS P K))) (fun t b d X=>rec (.T t fun c h=>BrW c h (rec (.Ss b K) h) (rec (.Ss d K) h)) h) (fun X X X=> .lf (JS P fr s h (kS P K))) (fun X X X=> .lf (JS P fr s h (kS P K))) (fun X X X=> .lf (JS P fr s h (kS P K))) (fun X X X=> .lf (JS P fr s h (kS P K))) (fun X X X X X=> .lf (JS P fr s h (kS P K))) (fun X X X X X=> .lf (JS P fr s h (kS P K))) (fun t X X=>rec (.T t fun c h=>RqW c h (K .next h)) h) (fun X X=> .lf (JS P fr s h (kS P K))) (fun X X X X=> .lf (JS P fr s h (kS P K))) (fun X X=> .lf (JS P fr s h (kS P K))) (fun X X=> .lf (JS P fr s h (kS P K))) (fun e pos=>bsW (zbd e) h (.lf (JS P fr (.Expr e pos) h (kS P K))) (rec (.E e fun X h=>K .next h) h)) (fun X=>K .next h) (fun X=>K .brk h) (fun X=>K .cont h)
noncomputable def znh(s:List Stmt)(K:Fl→Hp→Wt)(h:Hp):Wt:=List.rec (motive:=fun X=>Hp→Wt) (fun h=>K .next h) (fun s X q h=>rec (.S s fun x h=>Fl.casesOn (motive:=fun X=>Wt) x (q h) (K .brk h) (K .cont h) fun v=>K (.ret v) h) h) s h
def step(c:Cd)(h:Hp):Wt:=Cd.casesOn (motive:=fun X=>Wt) c (fun e K=>zqL P fr rec e K h) (fun e K=>zqH P fr rec e K h) (fun op es K=>zqG rec op es K h) (fun op es K=>zt1 P fr rec op es K h) (fun es K=>zqK rec es K h) (fun e K=>zsZ rec e K h) (fun ks K=>zqJ P fr rec ks K h) (fun s K=>zqI P fr rec s K h) (fun s K=>znh rec s K h) (fun t v K=>zqM P fr rec t v K h) (fun es K=>zt0 rec es K h)
def v(n:Nat):Cd→Hp→Wt:=Nat.rec (motive:=fun X=>Cd→Hp→Wt) (fun c h=> .lf (sem P fr c h)) (fun X r=>step P fr r) n
end
theorem zdz{α:Type}{l:List α}{a:α}(e:l.head? = some a)(t:l.tail.isEmpty=true):l = [a]:=by
 induction l using cL with
 | nil=>exact no e
 | cons b r=>obtain rfl:=sI e;obtain rfl:r = []:=eI t;rfl
section
variable {T:Tabs} {P:PM T} {fr:Fr} {rec:Cd→Hp→Wt} (ih:∀c h,(rec c h).sem P→sem P fr c h) {h:Hp}
theorem nt{b:Bool}(h:(!b)=true):b=false:=(Bool.not_eq_true' _).mp h
theorem JI.mono{a b:AV}{K K':AV→Hp→Prop}(H:JI P a b h K)(i:∀v h,K v h→K' v h):JI P a b h K':=fun A E Q s W va vb G x y k=>H A E Q s W va vb G x y fun X X X X X S V q=>k S V (i _ _ q)
theorem JK.mono{ks:List Keyword}{K K':List (Str×AV)→Hp→Prop}(H:JK P fr ks h K)(i:∀v h,K v h→K' v h):JK P fr ks h K':=fun pos A E Q s W env G F k=>H pos A E Q s W env G F fun X X X X X S V q=>k _ _ _ _ _ S V (i _ _ q)
theorem zfs{f:AV}{as:List AV}{kw:List (Str×AV)}{K:AV→Hp→Wt}(H:(zhz f as kw h K).sem P):zkH P f as kw h (kS P K):=by
 revert H
 unfold zhz zkH
 induction f.bi? with
 | some m=>exact id
 | none=>induction f.ty? with
  | some m=>exact id
  | none=>exact id
theorem zkG{m:MR}{as:List AV}{kw:List (Str×AV)}{K:AV→Hp→Wt}(H:(znQ (T:=T) m as kw h K).sem P):zpI P m as kw h (kS P K):=by
 induction m with
 | bm b self=>exact H
 | um f first=>exact zfs H
include ih
theorem zmP(B:Tbl T P.c){f:Expr}{as:List Expr}{ks:List Keyword}{pos:Pos}{K:AV→Hp→Wt}(H:(zrO P fr rec f as ks pos h K).sem P):JE P fr (.Call f as ks pos) h (kS P K):=by
 induction f using cE with
 | Name x p=>exact req.go H fun c H=>req.go (show load (T:=T) fr x h _ from H) fun hx X=>zpx c hx ((zg7 H).mono fun f h H=>(ih (.Es as _) h H).mono fun vs h H=>JK.mono (ih (.Kw ks _) h H) fun X X H=>zfs H)
 | Attribute o x p=>exact req.go H fun c H=>zpy B c ((ih (.E o _) h H).mono fun ov h H pl=>(zhX B.b.1 B.b.2 H).mono fun m h H=>(ih (.Es as _) h H).mono fun vs h H=>JK.mono (ih (.Kw ks _) h H) fun X X H=>zkG H)
 | _=>exact H
theorem zoh{o i:Expr}{pos:Pos}{K:AV→Hp→Wt}(H:(zub rec o i pos h K).sem P):JE P fr (.Subscript o i pos) h (kS P K):=by
 induction i using cE with
 | Slice lo hi st p=>exact zpv ((ih (.E o _) h H).mono fun ov h H=>(ih (.O lo _) h H).mono fun l h H=>(ih (.O hi _) h H).mono fun u h H=>ih (.O st _) h H)
 | _=>exact zrx ((ih (.E o _) h H).mono fun a h H=>ih (.E _ _) h H)
omit ih in
theorem zky{c:Const}{k:Nat}{pos:Pos}{K:AV→Hp→Wt}(H:(znK P fr c k pos h K).sem P):JE P fr (.Constant c k pos) h (kS P K):=by
 induction c with
 | none=>exact zru H
 | bool b=>exact zry H
 | int i=>exact ztB H
 | str s=>exact ztA H
 | _=>exact H
theorem zpG{l:Expr}{ops:List CmpOp}{rs:List Expr}{pos:Pos}{K:AV→Hp→Wt}(H:(ztH P fr rec l ops rs pos h K).sem P):JE P fr (.Compare l ops rs pos) h (kS P K):=by
 revert H
 unfold ztH
 induction e:ops.tail.isEmpty&&rs.tail.isEmpty with
 | false=>exact id
 | true=>
  induction e1:ops.head? with
  | none=>exact id
  | some op=>
   induction e2:rs.head? with
   | none=>exact id
   | some r=>
    obtain rfl:=zdz e1 (aI e).1
    obtain rfl:=zdz e2 (aI e).2
    exact fun H=>H.go fun c H=>ztC (nt c) ((ih (.E l _) h H).mono fun a h H=>ih (.E _ _) h H)
theorem zpF{l:Expr}{ops:List CmpOp}{rs:List Expr}{pos:Pos}{K:Bool→Hp→Wt}(H:(ztF P fr rec l ops rs pos h K).sem P):JT P fr (.Compare l ops rs pos) h (kS P K):=by
 revert H
 unfold ztF
 induction e:ops.tail.isEmpty&&rs.tail.isEmpty with
 | false=>exact id
 | true=>
  induction e1:ops.head? with
  | none=>exact id
  | some op=>
   induction e2:rs.head? with
   | none=>exact id
   | some r=>
    obtain rfl:=zdz e1 (aI e).1
    obtain rfl:=zdz e2 (aI e).2
    exact fun H=>H.go fun c H=>zsX (nt c) ((ih (.E l _) h H).mono fun a h H=>ih (.E _ _) h H)
theorem zev{e:Expr}{K:AV→Nat→Hp→Wt}(H:(zmF P fr rec e K h).sem P):JC P fr e h (fun v L h=>(K v L h).sem P):=by
 have key:∀{g:Comprehension},decide (g.is_async=0)=true→g = ⟨g.target,g.iter,g.ifs,0⟩:=fun {g} e=>by
  obtain ⟨a,b,c,d⟩:=g
  obtain rfl:d=0:=oD e
  rfl
 induction e using cE with
 | ListComp elt gens sc pos=>induction gens using cL with
  | nil=>exact H
  | cons g rest=>
   exact req.go H fun c H=>by
    obtain ⟨c1,c2⟩:=aI c
    rw [key c1]
    exact zrU c2 (ih (.E g.iter _) h H)
 | DictComp kx vx gens sc pos=>induction gens using cL with
  | nil=>exact H
  | cons g rest=>
   exact req.go H fun c H=>by
    obtain ⟨c1,c2⟩:=aI c
    rw [key c1]
    exact zrY c2 (ih (.E g.iter _) h H)
 | _=>exact H
omit ih in
theorem zuz{α:Type}{b:Bool}{x:Option α}{z:α}(h:cond b x none=some z):b=true∧x=some z:=by
 induction b with
 | false=>exact no h
 | true=>exact ⟨rfl,h⟩
omit ih in
theorem zcS{e:Expr}{x:Str}:zgU e=some x→∃p,e = .Name x p:=by
 induction e using cE with
 | Name y p=>exact fun e=>⟨p,congrArg (Expr.Name · p) (sI e)⟩
 | _=>exact no
omit ih in
theorem zpb{e:Expr}:ztq e=true→∃x p,e = .Name x p:=by
 induction e using cE with
 | Name y p=>exact fun X=>⟨y,p,rfl⟩
 | _=>exact nb
omit ih in
theorem zoL{es:List Expr}{k:Nat}{x:Expr}(e:zsm es k=some x):∃n p,x = .Name n p∧es = [.Name n p]∧k=0:=by
 obtain ⟨c,e⟩:=zuz e
 obtain ⟨c,c3⟩:=aI c
 obtain ⟨c1,c2⟩:=aI c
 rw [e] at c3
 obtain ⟨n,p,rfl⟩:=zpb c3
 exact ⟨n,p,rfl,zdz e c2,qB c1⟩
theorem zlx(B:Tbl T P.c){e:Expr}{K:AV→Hp→Wt}(H:(zqL P fr rec e K h).sem P):JE P fr e h (kS P K):=by
 induction e using cE with
 | BoolOp op vs p=>exact e_op (ih (.B op vs K) h H)
 | BinOp l op r p=>exact ztD ((ih (.E l _) h H).mono fun a h H=>ih (.E r _) h H)
 | UnaryOp op x p=>exact e_un (ih (.E x _) h H)
 | IfExp t b d p=>exact e_if ((ih (.T t _) h H).mono fun c h H=>Br.go H (fun e H=> .t e (ih (.E b K) h H)) fun e H=> .f e (ih (.E d K) h H))
 | Dict ks vs p=>induction ks using cL with
  | nil=>induction vs using cL with
   | nil=>exact zpw H
   | cons X Z=>exact H
  | cons X Z=>exact H
 | ListComp elt gens sc p=>exact zkm (zev ih (e:= .ListComp elt gens sc p) (K:=zr0 K) H)
 | DictComp kx vx gens sc p=>exact zkm (zev ih (e:= .DictComp kx vx gens sc p) (K:=zr0 K) H)
 | Set es k p=>
  have H:(Option.casesOn (motive:=fun X=>Wt) (zsm es k) (.lf (JE P fr (.Set es k p) h (kS P K))) fun x=>rqW fr.tab.isSome h (rec (.E x (zt3 h K)) (h.new (.set [])))).sem P:=H
  revert H
  induction e1:zsm es k with
  | none=>exact id
  | some x=>
   exact fun H=>req.go H fun c H1=>by
    obtain ⟨n,q,rfl,rfl,rfl⟩:=zoL e1
    exact zor c ((ih (.E _ (zt3 h K)) _ H1).mono fun v h' H=>H)
 | Compare l ops rs p=>exact zpG ih H
 | Call f as ks p=>exact zmP ih B H
 | Constant c k p=>exact zky H
 | Attribute o x p=>exact req.go H fun c H=>zrz (nt c) (ih (.E o _) h H)
 | Subscript o i p=>exact zoh ih H
 | Name x p=>exact zrv H
 | List es p=>exact req.go H fun c H=>zrw c (ih (.Es es _) h H)
 | Tuple es k p=>exact req.go H fun c H=>zpu c (ih (.Es es _) h H)
 | _=>exact H
theorem zlv{e:Expr}{K:Bool→Hp→Wt}(H:(zqH P fr rec e K h).sem P):JT P fr e h (kS P K):=by
 induction e using cE with
 | BoolOp op vs p=>exact t_op (ih (.Ts op vs K) h H)
 | UnaryOp op x p=>induction op with
  | Not=>exact zsV (ih (.T x _) h H)
  | _=>exact zhM (fun X X=>rfl) (ih (.E _ _) h H)
 | IfExp t b d p=>exact t_if ((ih (.T t _) h H).mono fun c h H=>Br.go H (fun e H=> .t e (ih (.T b K) h H)) fun e H=> .f e (ih (.T d K) h H))
 | Compare l ops rs p=>exact zpF ih H
 | Name x p=>exact zhM (fun X X=>rfl) (ih (.E _ _) h H)
 | BinOp l op r p=>exact zhM (fun X X=>rfl) (ih (.E _ _) h H)
 | Call f as ks p=>exact zhM (fun X X=>rfl) (ih (.E _ _) h H)
 | Attribute o x p=>exact zhM (fun X X=>rfl) (ih (.E _ _) h H)
 | Constant c k p=>exact zhM (fun X X=>rfl) (ih (.E _ _) h H)
 | _=>exact H
omit ih in
theorem znb{es:List Expr}{p:Str×Str}(e:two es=some p):∃a b,es = [.Name p.1 a, .Name p.2 b]:=by
 induction es using cL with
 | nil=>exact no e
 | cons a r=>
  obtain ⟨c,e⟩:=zuz e
  obtain ⟨x,e1,e⟩:=bE e
  obtain ⟨b,e2,e⟩:=bE e
  obtain ⟨y,e3,rfl⟩:=jE e
  obtain rfl:=zdz e2 c
  exact (zcS e1).elim fun q z=>(zcS e3).elim fun q' z'=>⟨q,q',by rw [z,z']⟩
theorem zly{t:Expr}{w:AV}{K:Unit→Hp→Wt}(H:(zqM P fr rec t w K h).sem P):JA' P fr t w h (kS P K):=by
 induction t using cE with
 | Name x p=>exact zl4 H
 | Attribute o x p=>exact zs7 (ih (.E o _) h H)
 | Subscript o i p=>exact zs6 ((ih (.E o _) h H).mono fun a h H=>ih (.E i _) h H)
 | Tuple es k p=>
  have H:(Option.casesOn (motive:=fun X=>Wt) (two es) (.lf (JA' P fr (.Tuple es k p) w h (kS P K))) fun p=> .pu (zcJ fr p.1 p.2 w h) K).sem P:=H
  revert H
  induction e1:two es with
  | none=>exact id
  | some q=>
   obtain ⟨a,b,rfl⟩:=znb e1
   exact fun H=>zkV H
 | _=>exact H
theorem zce{t e:Expr}{pos:Pos}{K:Fl→Hp→Wt}(c:zbd e=false)(h1:∀env,swappedStores [t] e env=pure none)(h2:∀env,(assignEach [t] env).map (·.2) = [assign t env])(H:(rec (.E e fun v h=>rec (.A t v fun X h=>K .next h) h) h).sem P):JS P fr (.Assign [t] e pos) h (kS P K):=zlj c h1 h2 ((ih (.E e _) h H).mono fun v h H=>ih (.A t v _) h H)
theorem zpS{e:Expr}{pos:Pos}{K:Fl→Hp→Wt}(c:zbd e=false)(t:Expr):(zuE P fr rec t e pos h K).sem P→JS P fr (.Assign [t] e pos) h (kS P K):=by
 induction t using cE with
 | Name x p=>exact zce ih c (fun X=>rfl) fun X=>rfl
 | Attribute o x p=>exact zce ih c (fun X=>rfl) fun X=>rfl
 | Subscript o i p=>exact zce ih c (fun X=>rfl) fun X=>rfl
 | Tuple es k p=>
  show (Option.casesOn (motive:=fun X=>Wt) (two es) (.lf (JS P fr (.Assign [.Tuple es k p] e pos) h (kS P K))) fun p=>rqW (zsn e) h (rec (.E e fun v h=> .pu (zcJ fr p.1 p.2 v h) fun X h=>K .next h) h)).sem P→_
  induction e1:two es with
  | none=>exact id
  | some q=>
   exact fun H=>req.go H fun c2 H₂=>by
    obtain ⟨a,b,rfl⟩:=znb e1
    exact ziE (Bool.and_eq_true_iff.mpr ⟨by rw [c];rfl,c2⟩) (ih (.E e _) h H₂)
 | _=>exact id
theorem zpT{t e:Expr}{pos:Pos}{K:Fl→Hp→Wt}(H:(zuF P fr rec t e pos h K).sem P):JS P fr (.Assign [t] e pos) h (kS P K):=H.go (fun c H=>H.go (fun d H=>opt.go H fun x e1 H=>by
  obtain ⟨q,rfl⟩:=zcS e1
  refine ziD c (fun X X X X q=>?_) (fun X=>rfl) (zev ih H)
  subst q;exact nomatch d) fun X H=>H) fun c H=>zpS ih c t H
theorem zpR{t e:Expr}{op:Operator}{pos:Pos}{K:Fl→Hp→Wt}(H:(zuD P fr rec t op e pos h K).sem P):JS P fr (.AugAssign t op e pos) h (kS P K):=by
 induction t using cE with
 | Name x p=>exact zqm ((zg7 H).mono fun a h H=>ih (.E e _) h H)
 | Attribute o x p=>exact zqo ((ih (.E o _) h H).mono fun ov h H x=>(zkd H x).mono fun a h H=>ih (.E e _) h H)
 | Subscript o i p=>exact req.go H fun c H=>zqn (nt c) ((ih (.E o _) h H).mono fun ov h H=>(ih (.E i _) h H).mono fun iv h H=>(zk3 H).mono fun a h H=>ih (.E e _) h H)
 | _=>exact H
omit ih in
theorem zpC{name:Str}{args:Arguments}{body:List Stmt}{decs:List Expr}{ret:Option Expr}{tps:List TypeParam}{scope:Scope}{doc:Option Scope}{bind:Str}{pos:Pos}{K:Fl→Hp→Wt}(H:(ztE P fr name args body decs ret tps scope doc bind pos h K).sem P):JS P fr (.FunctionDef name args body decs ret tps scope doc bind pos) h (kS P K):=by
 revert H
 unfold ztE
 induction e:decs.isEmpty&&(ret.isNone&&(tps.isEmpty&&doc.isNone)) with
 | false=>exact id
 | true=>
  induction e1:fr.tab with
  | none=>exact id
  | some p=>
   obtain ⟨a,e⟩:=aI e
   obtain ⟨b,e⟩:=aI e
   obtain ⟨c,d⟩:=aI e
   obtain rfl:=eI a
   obtain rfl:=jN b
   obtain rfl:=eI c
   obtain rfl:=jN d
   exact fun H=>req.go H fun c H=>zsJ e1 c H
theorem zlw{s:Stmt}{K:Fl→Hp→Wt}(H:(zqI P fr rec s K h).sem P):JS P fr s h (kS P K):=by
 induction s using Stmt.casesOn with
 | FunctionDef name args body decs ret tps scope doc bind pos=>exact zpC H
 | Return e p=>induction e with
  | none=>exact zqh H
  | some e=>exact zsG (ih (.E e _) h H)
 | Assign ts e p=>induction ts using cL with
  | nil=>exact H
  | cons t r=>induction r using cL with
   | nil=>exact zpT ih H
   | cons X Z=>exact H
 | AugAssign t op e p=>exact zpR ih H
 | For t i b d p=>induction d using cL with
  | nil=>exact req.go H fun c H=>zsI (nt c) (ih (.E i _) h H)
  | cons X Z=>exact H
 | While t b d p=>induction d using cL with
  | nil=>exact H.go.elim fun I H=>H.elim fun k H=>zo6 H.2 H.1
  | cons X Z=>exact H
 | If t b d p=>exact x_if ((ih (.T t _) h H).mono fun c h H=>Br.go H (fun e H=> .t e (ih (.Ss b K) h H)) fun e H=> .f e (ih (.Ss d K) h H))
 | Assert t m p=>exact zlk (ih (.T t _) h H)
 | Expr e p=>exact br.go H (fun X H=>H) fun c H=>zqj c (ih (.E e _) h H)
 | Pass p=>exact zqi H
 | Break p=>exact zsK H
 | Continue p=>exact zqk H
 | _=>exact H
theorem zeP{K:Fl→Hp→Wt}:∀{s:List Stmt} {h:Hp},(znh rec s K h).sem P→JSs P fr s h (kS P K)
 | [],_,H=>zsH H
 | s :: r,h,H=>zql ((ih (.S s _) h H).mono fun x h H=>by
   induction x with
   | next=>exact zeP H
   | _=>exact H)
theorem zoj(B:Tbl T P.c){c:Cd}(H:(step P fr rec c h).sem P):sem P fr c h:=by
 induction c with
 | E e K=>exact zlx ih B H
 | T e K=>exact zlv ih H
 | Ts op es K=>induction es using cL with
  | nil=>exact zsW H
  | cons e r=>exact zqA ((ih (.T e _) h H).mono fun b h H=>by
   induction op with
   | And=>exact Br.go H (fun e H=> .t e (ih (.Ts .And r K) h H)) fun e H=> .f e H
   | Or=>exact Br.go H (fun e H=> .t e H) fun e H=> .f e (ih (.Ts .Or r K) h H))
 | B op es K=>induction es using cL with
  | nil=>exact H
  | cons e r=>induction r using cL with
   | nil=>exact ztN (ih (.E e K) h H)
   | cons l r=>induction op with
    | And=>exact ztO ((ih (.E e _) h H).mono fun v h H=>(zcw H).mono fun t h H=>Br.go H (fun e H=> .t e (ih (.B .And (l :: r) K) h H)) fun e H=> .f e H)
    | Or=>exact H
 | Es es K=>induction es using cL with
  | nil=>exact zrr H
  | cons e r=>exact zpp ((ih (.E e _) h H).mono fun v h H=>ih (.Es r _) h H)
 | O e K=>induction e with
  | none=>exact zr2 H
  | some e=>exact zr1 (ih (.E e K) h H)
 | Kw ks K=>induction ks using cL with
  | nil=>exact zto H
  | cons k r=>
   obtain ⟨x,e,p⟩:=k
   induction x with
   | none=>exact H
   | some x=>exact zrh ((ih (.E e _) h H).mono fun v h H=>ih (.Kw r _) h H)
 | S s K=>exact zlw ih H
 | Ss s K=>exact zeP ih H
 | A t w K=>exact zly ih H
 | L es K=>induction es using cL with
  | nil=>exact zpV H
  | cons e r=>exact zn1 ((ih (.T e _) h H).mono fun b h H=>Br.go H (fun e H=> .t e (ih (.L r K) h H)) fun e H=> .f e H)
omit ih in
theorem zgx(B:Tbl T P.c):∀(n:Nat) {c:Cd} {h:Hp},(v P fr n c h).sem P→sem P fr c h
 | 0,_,_,H=>H
 | n+1,c,h,H=>zoj (rec:=v P fr n) (fun c h H=>zgx B n H) B H
end
section
variable {T:Tabs} {P:PM T} {W W₁:Wd} {h h₁:Hp} {s s₁:Shared} {A:Around} {E:Value→Shared→Prop} {env:Env} {fr:Fr} {fd:FDat} {cl:List (Str×Nat)} {dflt args:List AV} {kw:List (Str×AV)} {vals:List Value} {kvals:List (Str×Value)} {K:AV→Hp→Prop} {a:Addr} {r:Nat}
noncomputable def zud(K:AV→Hp→Wt)(x:Fl)(h:Hp):Wt:=Fl.casesOn (motive:=fun X=>Wt) x (K .none h) (K .none h) (K .none h) fun v=> .fz v h K
def zkQ(P:PM T)(fd:FDat)(cl:List (Str×Nat))(dflt args:List AV)(kw:List (Str×AV))(h:Hp)(K:AV→Hp→Wt):Wt:= .pu (zpO fd.params dflt args kw h fun bs h=>zbG (zb4 h fd.scope cl fd.tab) bs (zbq h fd.scope) fun h'=> .ret (zb4 h fd.scope cl fd.tab) h') fun fr h'=>v P fr 40 (.Ss fd.body (zud K)) h'
def zt5(P:PM T)(fd:FDat)(cl:List (Str×Nat))(dflt args:List AV)(kw:List (Str×AV))(h:Hp)(K:AV→Hp→Prop):Prop:=(zkQ P fd cl dflt args kw h fun v h=> .en v h K).sem P
def znr(fd:FDat):Bool:=!fd.scope.isCoroutine && !fd.scope.isGenerator&&zc5 fd.scope
noncomputable def PM.up(P:PM T):PM T:=⟨P.c,P.S,P.n+1⟩
def zn6(c:Cx)(W:Wd)(n:Nat)(s:Shared)(a:Addr)(fd:FDat)(cl:List (Str×Nat))(dflt:List AV):Prop:=∃o fd',s.heap.get? a=some o∧o.data = .func fd'∧fd'.params=fd.params∧fd'.body = .stmts fd.body∧fd'.scope=fd.scope∧fd'.globals=c.G∧fd'.builtins=0∧
  (∃cd oc vs q t,fd'.code = .ref cd∧s.heap.get? cd=some oc∧oc.data = .fields vs∧vs[1]? = some (.str q t)∧
   ∀t l k,fd.tab=some (t,l,k)→t∈c.tabs∧c.tinfo t=(l,k)∧cd∉c.tabs∧c.B.TableAt cd t #[]∧c.B.IsCode cd t #[])∧
  (∃o,zn7 s fd'.defaults o∧Rs (VR W n) dflt (o.getD #[]).toList)∧∀x k,cl.lookup x=some k→k<n∧fd'.closure.lookup x=some (W.pl k)
theorem zhf(H:zn6 P.c W h.nx s a fd cl dflt):zfG P.c s (.ref a):=by
 obtain ⟨o,fd',h1,h2,X⟩:=H
 exact ⟨.frame, .inl rfl,(Looks.ld (part:=none) h1).andThen (by rw [h2];exact .now)⟩
theorem zgE(B:Tbl T P.c)(ho:znr fd=true)(hR:RoomC A (P.n+1))(R:Rel P.c W h s)(hF:zn6 P.c W h.nx s a fd cl dflt)(hv:Rs (VR W h.nx) args vals)(hk:KR W h.nx kw kvals)(H:zt5 P fd cl dflt args kw h K){Q:Value→Shared→Prop}(kn:Kn P VV K W h.nx s Q):
  codeAny (model P.c.prog P.c.w) A (.call (.ref a) ⟨vals,kvals⟩) (zs3 Q E) s:=by
 simp only [znr,Bool.and_eq_true,Bool.not_eq_true',decide_eq_true_eq] at ho
 obtain ⟨⟨o1,o2⟩,o3⟩:=ho
 simp only [zc5,Bool.and_eq_true,beq_iff_eq,decide_eq_true_eq] at o3
 obtain ⟨o,fd',f1,f2,f3,f4,f5,f6,f7,⟨cd,oc,vs,q,tq,c1,c2,c3,c4,c5⟩,⟨dv,d1,d2⟩,f8⟩:=hF
 refine zez (P:=P) (lE (Nat.le_add_right _ _) (Nat.lt_trans hR.depth (by decide))) f1 f2 (by rw [f5];exact o1) (by rw [f5];exact o2) f4 c1 c2 c3 c4 ?_
 have H:(zpO fd.params dflt args kw h fun bs h=>zbG (zb4 h fd.scope cl fd.tab) bs (zbq h fd.scope) fun h'=> .ret (zb4 h fd.scope cl fd.tab) h').sem (fun fr h'=>(v P fr 40 (.Ss fd.body (zud fun v h=> .en v h K)) h').sem P):=H
 refine zpN f3 d1 d2 R hv hk H fun W₁ bs bv h₁ s₁ S₁ V₁ H=>?_
 rw [f5,f6,f7]
 obtain ⟨W₂,S₂,hF⟩:=zhh (cls:= "frame") (sc:=fd.scope) (clA:=fd'.closure) (cl:=cl) S₁.rel fun x t e=>(f8 x t e).imp (fun q=>lL q S₁.le.le) fun z=>z.trans (congrArg some (S₁.le.pl t (f8 x t e).1).symm)
 refine zoS fun env henv=>?_
 have F:=hF env fd.tab (by rw [henv];exact o3.1) (fun x k e=> .inl (by rw [henv];exact e)) (by rw [henv]) (by rw [henv]) (by rw [henv]) (by rw [henv]) fun t l k ht=>by
  obtain ⟨t1,t2,t3,t4,t5⟩:=c5 t l k ht
  exact ⟨t1,t2,cd,by rw [henv];exact c1,t3,t4,t5⟩
 have hR1:Room A.in1 P.n:=⟨hR.hand,by have:=hR.depth;show A.depth+_+_<_;lia,by have:=hR.units;show A.units+1+_+_<_;lia⟩
 refine zcI (P:=P) (A:=A.in1) ⟨hR1,S₂.rel⟩ F (KR.up S₂.le V₁) H fun W₃ h₃ s₃ S₃ H=>⟨?_,codeAny_func ?_⟩
 ·exact P.S.lim.elim fun mc z=>⟨mc,zef z.1 fun o e=>S₃.rel.amb.base _ _ e P.S.st,z.2⟩
 ·have S:=(S₁.trans S₂).trans S₃
  refine (zgx B 40 H:JSs P _ _ _ _) (A.deeper env) _ _ s₃ W₃ env ⟨hR.deeper,S₃.rel⟩ (F.up S₃.le) fun W₄ x f h₄ s₄ S₄ V H=>?_
  induction x with
  | next=>obtain rfl:f = .next:=V;exact kn (v:= .none) (S.trans S₄) rfl H
  | brk=>obtain rfl:f = .brk:=V;exact kn (v:= .none) (S.trans S₄) rfl H
  | cont=>obtain rfl:f = .cont:=V;exact kn (v:= .none) (S.trans S₄) rfl H
  | ret v=>
   obtain ⟨u,rfl,V⟩:=V
   obtain ⟨W₅,v',h₅,S₅,V₅,H⟩:=zhg H S₄.rel V
   exact kn ((S.trans S₄).trans S₅) V₅ H
theorem zkg(R:Rel P.c W h s){d:FDat×List AV}(e:T.defs a=some d):zn6 P.c W h.nx s a d.1 [] d.2:=by
 obtain ⟨t,o,fd',q1,q2,q3,q4,q5,q6,q7,⟨cd,oc,vs,q,tq,c1,c2,c3,c4,c5,c6⟩,hd⟩:=P.S.fn a d.1 d.2 e
 refine ⟨o,fd',R.amb.base _ _ q1 t,q2,q3,q4,q5,q6,q7,⟨cd,oc,vs,q,tq,c1,R.amb.base _ _ c3 c2,c4,c5,fun t l k e=>(c6 t l k e).imp id (.imp id fun z=>⟨c2,z⟩)⟩,?_,fun x k e=>no e⟩
 rcases hd with ⟨d1,d2⟩ | ⟨T',o',items,n,d1,d2,d3,d4,d5⟩
 ·exact ⟨none, .inl ⟨d1,rfl⟩,d2▸ .nil⟩
 ·exact ⟨some items, .inr ⟨T',o',items,n,d1,R.amb.base _ _ d3 d2,d4,rfl⟩,d5.imp fun X X=>VR0.up⟩
theorem znO(R:Rel P.c W h s)(hr:r<h.nx)(e:(h.at_ r).clo? = some (fd,cl))(ht:fd.tab=none):zn6 P.c W h.nx s (W.pl r) fd cl []:=by
 obtain ⟨ob,k1,fd',v,rfl,e1,⟨ca,oc,rfl,e2,vs,q,t,e3,e4,e5⟩,e6,e7,e8,e9,e10,e11,e12,e13⟩:=R.obj hr (AO.clo?_is e) rfl
 exact ⟨_,fd',k1,rfl,e7,e8,e9,e10,e11,⟨ca,oc,vs,q,t,e1,(R.fz _ _ e2).2.1,e4,e5,fun t l k h=>no (ht▸h)⟩,⟨none, .inl ⟨e12,rfl⟩, .nil⟩,e6⟩
theorem zde(B:Tbl T P.c){d:FDat×List AV}(e:T.defs a=some d)(ho:znr d.1=true)(H:zt5 P d.1 [] d.2 args kw h K):za6 P.up (.glob a) args kw h K:=fun A E Q s W fv vs kv hR R Vf Va Vk kn=>by
 obtain rfl:fv = .ref a:=Vf
 exact ⟨zhf (P:=P) (zkg (P:=P) R e),zgE (P:=P) B ho hR R (zkg (P:=P) R e) Va Vk H kn⟩
theorem zmK(B:Tbl T P.c)(e:(h.at_ r).clo? = some (fd,cl))(ho:znr fd=true)(ht:fd.tab=none)(H:zt5 P fd cl [] args kw h K):za6 P.up (.ref r) args kw h K:=fun A E Q s W fv vs kv hR R Vf Va Vk kn=>by
 obtain ⟨hr,rfl⟩:=Vf
 exact ⟨zhf (P:=P) (znO (P:=P) R hr e ht),zgE (P:=P) B ho hR R (znO (P:=P) R hr e ht) Va Vk H kn⟩
end
section
variable {T:Tabs} {P:PM T} {W W₁:Wd} {h h₁:Hp} {s s₁:Shared} {A:Around} {E:Value→Shared→Prop} {env:Env} {fr:Fr} {args:List AV} {kw:List (Str×AV)} {K:AV→Hp→Prop} {a m:Nat}
def ztj(h:Hp)(K:AV→Hp→Prop)(v:AV)(h':Hp):Prop:=req (isNone v) (K (.ref (h.nx+1)) h')
theorem zmJ(e:zb3 T a [95,95,105,110,105,116,95,95]=some m)(H:za6 P (.glob m) (.ref (h.nx+1) :: args) kw ((h.new (.dict true [])).new (.inst a h.nx)) (ztj h K)):za6 P.up (.glob a) args kw h K:=fun A E Q s W fv vals kvals hR R hf hv hk kn=>by
 obtain rfl:fv = .ref a:=hf
 obtain ⟨mk,m6⟩:=P.S.make a m e
 obtain ⟨m1,m2,m3,m4,m5⟩:=P.S.meth a _ m e
 rw [show strOf [95,95,105,110,105,116,95,95]=("__init__" :Str) from by decide +kernel] at m1
 have X:=Stat.here R
 refine ⟨(looks_keep m6 X).imp fun k q=>⟨q.1.elim .inl fun e=> .inr (.inl e),q.2⟩,?_⟩
 obtain ⟨hh,g,d,tk,os⟩:=s
 refine make_core (makes_of X mk) (looks_findIn X m1) (fun self=>bind_fn X self m3) (.inl rfl) ?_
 have S₁:Step P.c h.nx W ⟨hh,g,d,tk,os⟩ (W.put h.nx hh.objs.size) (h.new (.dict true [])) ⟨hh.push emptyDict,g,d,tk,os⟩:= .new R (a:=hh.objs.size) (.dict true []) (fun Z=>⟨_,pZ _ rfl, #[],_,rfl, .nil,List.nodup_nil,fun Z=>rfl⟩) (rL _) (R.outside (rL _)) (fun Z Z e=>pS _ e) rfl rfl
 have hsz:(hh.push emptyDict).objs.size=hh.objs.size+1:=Heap.size_push ..
 have S₂:Step P.c (h.nx+1) (W.put h.nx hh.objs.size) ⟨hh.push emptyDict,g,d,tk,os⟩ ((W.put h.nx hh.objs.size).put (h.nx+1) (hh.push emptyDict).objs.size) ((h.new (.dict true [])).new (.inst a h.nx)) ⟨(hh.push emptyDict).push (instObj a hh.objs.size),g,d,tk,os⟩:=
  .new S₁.rel (a:=(hh.push emptyDict).objs.size) (.inst a h.nx) (fun Z=>⟨_,pZ _ rfl,Nat.lt_succ_of_lt (sS _),congrArg (instObj a) ((zae (Nat.ne_of_lt (sS _))).trans upd_self).symm⟩) (rL _) (S₁.rel.outside (rL _)) (fun Z Z e=>pS _ e) rfl rfl
 have S:=S₁.trans S₂
 have V:VR ((W.put h.nx hh.objs.size).put (h.nx+1) (hh.push emptyDict).objs.size) (h.nx+2) (.ref (h.nx+1)) (.ref (hh.objs.size+1)):=⟨sS _,congrArg Value.ref (hsz.symm.trans upd_self.symm)⟩
 have hRc:RoomC (A.under (.builtin "type.__call__" ⟨.ref a :: vals,kvals⟩)) P.n:=⟨hR.hand,by have:A.depth+8*(P.n+1)<900:=hR.depth;show A.depth+1+_<_;lia,by have w2:(Code.builtin "type.__call__" ⟨.ref a :: vals,kvals⟩).cUnits=1:=rfl;have:A.units+60*(P.n+1)+70<cLine:=hR.units;show A.units+(Code.builtin "type.__call__" ⟨.ref a :: vals,kvals⟩).cUnits+_+_<_;lia⟩
 refine codeAny_mono (H _ E (fun v s'=>Q (.ref (hh.objs.size+1)) s'∧v = .none) _ _ (.ref m) (.ref (hh.objs.size+1) :: vals) kvals hRc S₂.rel rfl (.cons V (VR.ups S.le hv)) (KR.up S.le hk) fun W₃ v val h₃ s₃ S₃ V₃ H=>H.go fun c H=>⟨kn (S.trans S₃) (V.up S₃.le) H,(zd1 c▸V₃:VR _ _ .none val)⟩).2 fun r s' z=>?_
 rcases r with e | (x | _ | _ | _) <;> first | exact z | exact z.elim | exact ⟨z.2,z.1⟩
end
section
variable {T:Tabs} {P:PM T} {W:Wd} {h:Hp} {s:Shared} {σ:List Nat} {os:List AO} {f:AV} {as:List AV} {kw:List (Str×AV)} {K Kc:AV→Hp→Prop} {n:Nat}
theorem zqp{vs:List Value}:∀{as:List AV},as.all (AV.bd n)=true→Rs (VR W h.nx) (as.map (AV.ren (gl σ))) vs→Rs (VR (W.comp (gl σ)) n) as vs:=fun b r=>Rs.unmap (p:=AV.bd n) (fun X X b=>VR.cm b) b r
theorem ztn{kv:List (Str×Value)}:∀{kw:List (Str×AV)},(kw.all fun e=>e.2.bd n)=true→KR W h.nx (kw.map fun e=>(e.1,e.2.ren (gl σ))) kv→KR (W.comp (gl σ)) n kw kv:=fun b r=>Rs.unmap (p:=fun e:Str×AV=>e.2.bd n) (fun X X b=> .imp_right (VR.cm b)) b r
theorem zkF(V:Vw σ h os)(b:(f.bd os.length&&as.all (AV.bd os.length)&&kw.all fun e=>e.2.bd os.length)=true)(C:za6 P f as kw (Hp.of os) Kc)(k:∀v E,Kc v E→K (v.ren (g2 h σ)) (h.patch σ E)):za6 P (f.ren (gl σ)) (as.map (AV.ren (gl σ))) (kw.map fun e=>(e.1,e.2.ren (gl σ))) h K:=fun A E Q s W fv vs kv hR R Vf Va Vk kn=>by
 obtain ⟨b,b3⟩:=aI b
 obtain ⟨b1,b2⟩:=aI b
 exact C A E Q s (W.comp (gl σ)) fv vs kv hR (R.view V) (VR.cm b1 Vf) (zqp b2 Va) (ztn b3 Vk) fun W₁ v val E₁ s₁ S Vv q=>kn (.patch R V S) (VR.mp (zeb V S) Vv) (k v E₁ q)
theorem zkE{f':AV}{as':List AV}{kw':List (Str×AV)}(V:Vw σ h os)(C:za6 P f as kw (Hp.of os) Kc)(b:(f.bd os.length&&as.all (AV.bd os.length)&&kw.all fun e=>e.2.bd os.length)=true)(e1:f'=f.ren (gl σ))(e2:as'=as.map (AV.ren (gl σ)))(e3:kw'=kw.map fun e=>(e.1,e.2.ren (gl σ)))
  (k:∀v E,Kc v E→K (v.ren (g2 h σ)) (h.patch σ E)):za6 P f' as' kw' h K:=by subst e1 e2 e3;exact zkF V b C k
inductive EndK(n:Nat)(K:AV→Hp→Prop)(v:AV)(h':Hp):Prop
 | mk (σ:List Nat) (os:List AO) (v':AV) (e:σ.map h'.at_=os.map (AO.ren (gl σ))) (b1:(os.all (AO.bd os.length)&&os.all (fun o=>(o.ren id).live)&&nd σ&&σ.all fun k=>Nat.blt k h'.nx)=true) (b:((List.range n).all (fun j=>Nat.beq (gl σ j) j)&&Nat.ble n os.length&&v'.bd os.length)=true) (ev:v=v'.ren (gl σ)) (H:K v' (Hp.of os))
theorem zeA(C:za6 P f as kw h (EndK h.nx K)):za6 P f as kw h K:=fun A E Q s W fv vs kv hR R Vf Va Vk kn=>C A E Q s W fv vs kv hR R Vf Va Vk fun W' v val h' s' S Vv q=>by
 obtain ⟨σ,os,v',e,b1,b,rfl,q⟩:=q
 have V:Vw σ h' os:=⟨e,b1⟩
 obtain ⟨b,b3⟩:=aI b
 exact kn (S.view V b) (VR.cm b3 Vv) q
theorem AV.ren0{g:Nat→Nat}{x:AV}(b:x.bd 0=true):x.ren g=x:=by
 induction x with
 | ref k=>exact absurd (blt b) (zN _)
 | _=>rfl
theorem AV.rens0{g:Nat→Nat}:∀{as:List AV},as.all (AV.bd 0)=true→as.map (AV.ren g)=as
 | [],_=>rfl
 | _ :: _,b=>by rw [List.map_cons,AV.ren0 (aI b).1,AV.rens0 (aI b).2]
theorem Wk.patch0:Wk (h.patch [] (Hp.of [])) h:=⟨rL _,fun k q l=>by
 have e:(h.patch [] (Hp.of [])).at_ k=h.at_ k:=by unfold Hp.patch;simp only [ziw q,cond_true];rfl
 rw [e];exact ⟨l,fun X X X=>id⟩⟩
theorem VR.bd0{m:Nat}{x:AV}{v:Value}(b:x.bd 0=true)(h:VR W n x v):VR W m x v:=by
 induction x with
 | ref k=>exact absurd (blt b) (zN _)
 | _=>exact h
theorem zkD{r:AV}(b:(f.bd 0&&as.all (AV.bd 0)&&r.bd 0)=true)(C:za6 P f as [] (Hp.of []) fun v X=>v=r)(k:K r h):za6 P f as [] h K:=fun A E Q s W fv vs kv hR R Vf Va Vk kn=>by
 obtain ⟨b,b3⟩:=aI b
 obtain ⟨b1,b2⟩:=aI b
 have V:Vw [] h []:=⟨rfl,rfl⟩
 exact C A E Q s (W.comp (gl [])) fv vs kv hR (R.view V) (VR.cm b1 (by rw [AV.ren0 b1];exact Vf)) (zqp b2 (by rw [AV.rens0 b2];exact Va)) (by cases Vk;exact .nil) fun W₁ v val E₁ s₁ S Vv q=>by
  subst q
  exact kn ((Step.patch R V (S.wk (h':=Hp.of []) (.cut rfl rfl) (rL _))).wk .patch0 (rL _)) (VR.bd0 b3 (AV.ren0 b3▸VR.mp (zeb V S) Vv)) k
end
end Mn
end
section
open PySem PySem.W
namespace Mn
section
variable {T:Tabs} {P:PM T} {fr:Fr} {t:Expr} {ifs:List Expr} {inner:Hp→(Hp→Prop)→Prop} {it:Nat} {h:Hp} {K:Hp→Prop}
theorem GJ.of{xs:List AV}{In:Nat→Hp→Prop}{adv:Nat→Hp→Hp}{fin:Hp→Hp}(mono:∀h (K K':Hp→Prop),(∀h,K h→K' h)→inner h K→inner h K')(D:Iter P t it xs In adv fin)(I:Nat→Hp→Prop)(h0:I 0 h)(hl:∀k h,I k h→it<h.nx∧In k h)
  (hb:∀k x h',xs[k]? = some x→I k h'→JA' P fr t x (adv k h') fun X h'=>zpZ P fr ifs h' fun ok h'=>Br ok (inner h' (On1 I h.nx k)) (On1 I h.nx k h')) (he:∀h,I xs.length h→K (fin h)):GJ P fr t ifs inner it h K:=by
 refine ⟨fun m h'=>∃k,k+m=xs.length∧I k h',xs.length,⟨0,Nat.zero_add _,h0⟩,fun m h' z=>z.elim fun k z=>⟨(hl k h' z.2).1,?_⟩⟩
 induction m using Nat.casesOn with
 | zero=>obtain rfl:k=xs.length:=z.1;exact D.stop _ _ (hl _ _ z.2).2 (he _ z.2)
 | succ m=>
  have hk:k<xs.length:=by lia
  have i:∀h'',On1 I h.nx k h''→On (fun m h'=>∃k,k+m=xs.length∧I k h') h.nx (m+1) h'':=fun h ⟨h',a,b,c⟩=>⟨h',m,a,b,sS _,k+1,by lia,c⟩
  exact D.step k _ _ _ (List.getElem?_eq_getElem hk) (hl _ _ z.2).2 ((hb k _ h' (List.getElem?_eq_getElem hk) z.2).mono fun X X H=>J.mono H fun ok h H=>H.go (fun e H=> .t e (mono _ _ _ i H)) fun e H=> .f e (i _ H))
theorem zl0{a:Nat}{v:AV}{h:Hp}{K K':Hp→Prop}(i:∀h,K h→K' h)(H:ztT a v h K):ztT a v h K':=by
 have key:∀(v:AV) (h:Hp),(opt (h.at_ a).list? fun q=>Rq (Nat.ble q.2.length.succ sizeL&&(q.1 || tf v)) (K (h.set a (.list q.1 (q.2 ++ [v])))))→(opt (h.at_ a).list? fun q=>Rq (Nat.ble q.2.length.succ sizeL&&(q.1 || tf v)) (K' (h.set a (.list q.1 (q.2 ++ [v]))))):=fun v h H=>H.go fun q e H=>zbM e (H.go fun c H=> .t c (i _ H))
 exact H.casesOn (fun H=> .as (key _ _ H)) fun k xs e1 e2 H=> .fz k xs e1 e2 (key _ _ H)
theorem zik{elt:Expr}{a:Nat}(h:Hp)(K K':Hp→Prop)(i:∀h,K h→K' h)(H:zkk P elt fr a h K):zkk P elt fr a h K':=J.mono H fun X X H=>zl0 i H
theorem zgh{kx vx:Expr}{a:Nat}(h:Hp)(K K':Hp→Prop)(i:∀h,K h→K' h)(H:zfk P kx vx fr a h K):zfk P kx vx fr a h K':=J.mono H fun X X H=>J.mono H fun X X H=>opt.go H fun z e H=>zbM e (H.go fun p e H=>zbM e (H.go fun c H=> .t c (i _ H)))
end
namespace Tr
variable {β:Type}
noncomputable def run(t:Tr β):Tr β:=Tr.rec (motive:=fun X=>Tr β) .ret .no (fun b X q=>Bool.casesOn (motive:=fun X=>Tr β) b .no q) (fun b X X q r=>Bool.casesOn (motive:=fun X=>Tr β) b r q) (fun o X q=>Option.casesOn (motive:=fun X=>Tr β) o .no q) (fun o X X q r=>Option.casesOn (motive:=fun X=>Tr β) o r q) (fun b t X=> .Rq b t) (fun b t e X X=> .Br b t e) (fun d o k X=> .Op d o k) (fun d o k n X X=> .Al d o k n) (fun x b k X=> .rs x b k) (fun d f xs k X=> .mp d f xs k) (fun xs ys k X=> .eq xs ys k) t
def eqU(xs ys:List AV)(u:U):Prop:=U.casesOn (motive:=fun X=>Prop) u False (fun X=>False) (fun X=>False) (fun X=>False) (fun X=>False) (fun X=>False) (fun X=>False) (fun X X=>False) (fun X X=>False) (fun X=>False) (fun X=>False) (fun X=>False) (Nat.beq xs.length ys.length=false) (fun a b=>xs=a.map .str∧ys=b.map .str∧(∀s∈a,zgk s)∧∀s∈b,zgk s) fun a b=>xs=a.map .int∧ys=b.map .int
noncomputable def eqV(u:U):Bool:=U.casesOn (motive:=fun X=>Bool) u false (fun X=>false) (fun X=>false) (fun X=>false) (fun X=>false) (fun X=>false) (fun X=>false) (fun X X=>false) (fun X X=>false) (fun X=>false) (fun X=>false) (fun X=>false) false (fun a b=>a==b) fun a b=>a==b
def oC{α:Type}(o:Option α)(k:α→Prop):Prop:=Option.casesOn (motive:=fun X=>Prop) o False k
noncomputable def oN{α:Type}(o:Option α)(k:α→Tr β)(n:Tr β):Tr β:=Option.casesOn (motive:=fun X=>Tr β) o n k
def cn(t:Tr β)(u:U):Prop:=Tr.casesOn (motive:=fun X=>Prop) t (fun X X=>False) False (fun X X=>False) (fun X X X=>False) (fun X X=>False) (fun X X X=>False) (fun b X=>b=true) (fun b X X=>oC u.b? fun i=>b=i) (fun d o X=>oC (d u) fun a=>o=some a) (fun d o X X=>o=d u) (fun x b X=>oC u.i? fun y=>x=y∧b=true) (fun d f xs X=>oC (d u) fun is=>xs=is.map f) fun xs ys X=>eqU xs ys u
def nx(t:Tr β)(u:U):Tr β:=Tr.casesOn (motive:=fun X=>Tr β) t (fun X X=> .no) .no (fun X X=> .no) (fun X X X=> .no) (fun X X=> .no) (fun X X X=> .no) (fun X t=>t) (fun X t e=>oN u.b? (fun i=>cond i t e) .no) (fun d X k=>oN (d u) k .no) (fun d X k n=>oN (d u) k n) (fun X X k=>oN u.i? k .no) (fun d X X k=>oN (d u) k .no) fun X X k=>k (eqV u)
theorem oC.go{α:Type}{o:Option α}{k:α→Prop}{j:α→Tr β}{K:β→Hp→Prop}{G:Prop}(e:oC o k)(H:(oN o j .no).sem K)(f:∀a,k a→(j a).sem K→G):G:=by
 induction o with
 | none=>exact e.elim
 | some a=>exact f a e H
theorem st{K:β→Hp→Prop}{t:Tr β}(u:U)(e:t.cn u)(H:(t.nx u).sem K):t.sem K:=by
 induction t using Tr.casesOn with
 | Rq=>exact .t e H
 | Br=>
  exact oC.go e H fun i e H=>by
   induction i with
   | true=>exact .t e H
   | false=>exact .f e H
 | Op=>exact oC.go e H fun a e H=> .s a e H
 | Al d o k n=>
  have H:(oN (d u) k n).sem K:=H
  rw [←(show o=d u from e)] at H
  induction o with
  | none=>exact .n rfl H
  | some a=>exact .s a rfl H
 | rs=>exact oC.go e H fun y e H=> .mk y e.1 e.2 H
 | mp=>exact oC.go e H fun is e H=> .mk is e H
 | eq=>induction u with
  | len=>exact .len e H
  | txt a b=>exact .strs a b e.1 e.2.1 e.2.2.1 e.2.2.2 H
  | num a b=>exact .ints a b e.1 e.2 H
  | _=>exact False.elim e
 | _=>exact False.elim e
theorem run_ok{K:β→Hp→Prop}(t:Tr β)(H:t.run.sem K):t.sem K:=by
 induction t with
 | rq b t ih=>induction b with
  | false=>exact H
  | true=>exact ih H
 | bs b t e i1 i2=>induction b with
  | false=>exact i2 H
  | true=>exact i1 H
 | os o k ih=>induction o with
  | none=>exact H
  | some a=>exact ih a H
 | al o k n i1 i2=>induction o with
  | none=>exact i2 H
  | some a=>exact i1 a H
 | _=>exact H
end Tr
namespace Wt
def nf(w:Wt):Wt:=Wt.rec (motive:=fun X=>Wt) .lf .en (fun t k q=>Tr.casesOn (motive:=fun X=>Wt) t.run q (.pu .no k) (fun X X=> .pu .no k) (fun X X X=> .pu .no k) (fun X X=> .pu .no k) (fun X X X=> .pu .no k) (fun b t=> .pu (.Rq b t) k) (fun b t e=> .pu (.Br b t e) k) (fun d o k'=> .pu (.Op d o k') k) (fun d o k' n=> .pu (.Al d o k' n) k) (fun x b k'=> .pu (.rs x b k') k) (fun d f xs k'=> .pu (.mp d f xs k') k) fun xs ys k'=> .pu (.eq xs ys k') k) (fun v h k X=> .fz v h k) (fun f as kw h k X=> .cl f as kw h k) (fun fr t ifs rest em it h k X=> .gj fr t ifs rest em it h k) (fun wl fr t b it h k X=> .fj wl fr t b it h k) w
noncomputable def cs{γ:Sort _}(w:Wt)(d:γ)(en:AV→Hp→(AV→Hp→Prop)→γ)(fz:AV→Hp→(AV→Hp→Wt)→γ)(cl:AV→List AV→List (Str×AV)→Hp→(AV→Hp→Wt)→γ)(gj:Fr→Expr→List Expr→List Comprehension→Em→Nat→Hp→(Hp→Wt)→γ)(fj:Bool→Fr→Expr→List Stmt→Nat→Hp→(Fl→Hp→Wt)→γ):γ:=Wt.casesOn (motive:=fun X=>γ) w.nf (fun X=>d) en (fun X X=>d) fz cl gj fj
def cn(w:Wt)(u:U):Prop:=Wt.casesOn (motive:=fun X=>Prop) w.nf (fun X=>False) (fun X X X=>False) (fun t X=>t.cn u) (fun X X X=>False) (fun X X X X X=>False) (fun X X X X X X X X=>False) fun X X X X X X X=>False
noncomputable def nx(w:Wt)(u:U):Wt:=Wt.casesOn (motive:=fun X=>Wt) w.nf (fun X=> .lf False) (fun X X X=> .lf False) (fun t k=> .pu (t.nx u) k) (fun X X X=> .lf False) (fun X X X X X=> .lf False) (fun X X X X X X X X=> .lf False) fun X X X X X X X=> .lf False
noncomputable def hp(w:Wt):Hp:=w.cs ⟨0,fun X=> .other⟩ (fun X h X=>h) (fun X h X=>h) (fun X X X h X=>h) (fun X X X X X X h X=>h) fun X X X X X h X=>h
noncomputable def vf(w:Wt):AV:=w.cs .none (fun v X X=>v) (fun v X X=>v) (fun X X X X X=> .none) (fun X X X X X X X X=> .none) fun X X X X X X X=> .none
noncomputable def kz(w:Wt):AV→Hp→Wt:=w.cs (fun X X=> .lf False) (fun X X X X X=> .lf False) (fun X X k=>k) (fun X X X X X X X=> .lf False) (fun X X X X X X X X X X=> .lf False) fun X X X X X X X X X=> .lf False
noncomputable def kc(w:Wt):AV→Hp→Wt:=w.cs (fun X X=> .lf False) (fun X X X X X=> .lf False) (fun X X X X X=> .lf False) (fun X X X X k=>k) (fun X X X X X X X X X X=> .lf False) fun X X X X X X X X X=> .lf False
noncomputable def clA(w:Wt):Option (AV×List AV×List (Str×AV)):=w.cs none (fun X X X=>none) (fun X X X=>none) (fun f as kw X X=>some (f,as,kw)) (fun X X X X X X X X=>none) fun X X X X X X X=>none
def lq(w:Wt):AV→Hp→Prop:=w.cs (fun X X=>False) (fun X X p=>p) (fun X X X X X=>False) (fun X X X X X X X=>False) (fun X X X X X X X X X X=>False) fun X X X X X X X X X=>False
section
variable {T:Tabs} {P:PM T}
theorem nf_ok(w:Wt)(H:w.nf.sem P):w.sem P:=by
 induction w with
 | pu t k ih=>
  refine t.run_ok ?_
  have H:(Tr.casesOn (motive:=fun X=>Wt) t.run (fun a h=>(k a h).nf) (.pu .no k) (fun X X=> .pu .no k) (fun X X X=> .pu .no k) (fun X X=> .pu .no k) (fun X X X=> .pu .no k) (fun b t=> .pu (.Rq b t) k) (fun b t e=> .pu (.Br b t e) k) (fun d o k'=> .pu (.Op d o k') k) (fun d o k' n=> .pu (.Al d o k' n) k) (fun x b k'=> .pu (.rs x b k') k) (fun d f xs k'=> .pu (.mp d f xs k') k) fun xs ys k'=> .pu (.eq xs ys k') k:Wt).sem P:=H
  revert H
  induction t.run using Tr.casesOn with
  | ret a h=>exact ih a h
  | no | rq | bs | os | al=>exact False.elim
  | _=>exact id
 | _=>exact H
variable {w:Wt}
theorem st0(u:U)(e:w.cn u)(H:(w.nx u).sem P):w.nf.sem P:=by
 revert e H
 unfold cn nx
 induction w.nf using Wt.casesOn with
 | pu t k=>exact t.st u
 | _=>exact fun e X=>False.elim e
theorem asIs0(H:(w.kz w.vf w.hp).sem P):w.nf.sem P:=by
 revert H
 unfold kz vf hp cs
 induction w.nf using Wt.casesOn with
 | fz v h k=>exact fun H=>(frz.as H:frz v h fun a h=>(k a h).sem P)
 | _=>exact False.elim
theorem froz0(k:Nat)(xs:List SV)(H:(w.kz (.lst xs) (w.hp.set k .other)).sem P)(e:w.vf = .ref k)(e2:w.hp.at_ k = .list false (xs.map SV.av)):w.nf.sem P:=by
 revert H e e2
 unfold kz vf hp cs
 induction w.nf using Wt.casesOn with
 | fz v h k'=>exact fun H e e2=>(frz.fz k xs e e2 H:frz v h fun a h=>(k' a h).sem P)
 | _=>exact fun H=>False.elim H
theorem fin0(H:w.lq w.vf w.hp):w.nf.sem P:=by
 revert H
 unfold lq vf hp cs
 induction w.nf using Wt.casesOn with
 | en v h p=>exact id
 | _=>exact False.elim
theorem call0{f:AV}{as:List AV}{kw:List (Str×AV)}(e:w.clA=some (f,as,kw))(C:za6 P f as kw w.hp fun v h=>(w.kc v h).sem P):w.nf.sem P:=by
 revert e C
 unfold clA kc hp cs
 induction w.nf using Wt.casesOn with
 | cl f' as' kw' h k=>exact fun e C=>by obtain ⟨rfl,rfl,rfl⟩:=sI e;exact C
 | _=>exact fun e=>no e
noncomputable def nz(w:Wt):Wt:=w.kz w.vf w.hp
def nl(w:Wt)(k:Nat)(xs:List SV):Wt:=w.kz (.lst xs) (w.hp.set k .other)
noncomputable def nc(w:Wt)(r:AV):Wt:=w.kc r w.hp
def nh(w:Wt)(σ:List Nat)(r:AV)(E:Hp):Wt:=w.kc (r.ren (g2 w.hp σ)) (w.hp.patch σ E)
end
end Wt
structure Sm{T:Tabs}(P:PM T)(w:Wt):Prop where
 go:w.nf.sem P
namespace Sm
variable {T:Tabs} {P:PM T} {w:Wt}
theorem sem(H:Sm P w):w.sem P:=w.nf_ok H.go
theorem st(u:U){p:Prop}(e:p)(H:Sm P (w.nx u))(q:autoParam (w.cn u=p) Mine.kr1):Sm P w:=⟨Wt.st0 u (q▸e) H.sem⟩
theorem tt(H:Sm P (w.nx (.b true)))(q:autoParam ((true=true)=w.cn (.b true)) Mine.kr1):Sm P w:=st _ rfl H q.symm
theorem ff(H:Sm P (w.nx (.b false)))(q:autoParam ((false=false)=w.cn (.b false)) Mine.kr1):Sm P w:=st _ rfl H q.symm
theorem ok(H:Sm P (w.nx .o))(q:autoParam ((true=true)=w.cn .o) Mine.kr1):Sm P w:=st _ rfl H q.symm
theorem rf(u:U){α:Sort _}(x:α)(H:Sm P (w.nx u))(q:autoParam (w.cn u=(x=x)) Mine.kr1):Sm P w:=st u rfl H q
theorem num(y:Int)(H:Sm P (w.nx (.i y)))(q:autoParam ((y=y∧true=true)=w.cn (.i y)) Mine.kr1):Sm P w:=st _ ⟨rfl,rfl⟩ H q.symm
theorem asIs(H:Sm P w.nz):Sm P w:=⟨Wt.asIs0 H.sem⟩
theorem froz(k:Nat)(xs:List SV)(H:Sm P (w.nl k xs))(e:autoParam (w.vf = .ref k) Mine.kr1)(e2:autoParam (w.hp.at_ k = .list false (xs.map SV.av)) Mine.kr1):Sm P w:=⟨Wt.froz0 k xs H.sem e e2⟩
theorem fin{p:Prop}(e:p)(q:autoParam (w.lq w.vf w.hp=p) Mine.kr1):Sm P w:=⟨Wt.fin0 (q▸e)⟩
theorem callP{f r:AV}{as:List AV}{kw:List (Str×AV)}(C:∀{h:Hp} {K:AV→Hp→Prop},K r h→za6 P f as kw h K)(H:Sm P (w.nc r))(e:autoParam (w.clA=some (f,as,kw)) Mine.kr1):Sm P w:=⟨Wt.call0 e (C H.sem)⟩
theorem callH{f:AV}{as:List AV}{kw:List (Str×AV)}{os:List AO}{Kc:AV→Hp→Prop}(C:za6 P f as kw (Hp.of os) Kc)(σ:List Nat)(H:∀v E,Kc v E→Sm P (w.nh σ v E))(e:autoParam (w.clA=some (f.ren (gl σ),as.map (AV.ren (gl σ)),kw.map fun e=>(e.1,e.2.ren (gl σ)))) Mine.kr1)(e1:autoParam (σ.map w.hp.at_=os.map (AO.ren (gl σ))) Mine.kr1)
  (b:autoParam (((os.all (AO.bd os.length)&&os.all (fun o=>(o.ren id).live)&&nd σ&&σ.all fun k=>Nat.blt k w.hp.nx)&&(f.bd os.length&&as.all (AV.bd os.length)&&kw.all fun e=>e.2.bd os.length))=true) Mine.kr1):Sm P w:=
 ⟨Wt.call0 e (zkF ⟨e1,(aI b).1⟩ (aI b).2 C fun v E q=>(H v E q).sem)⟩
end Sm
theorem Tr.mono{β:Type}{K K':β→Hp→Prop}(i:∀a h,K a h→K' a h)(t:Tr β)(H:t.sem K):t.sem K':=by
 induction t with
 | ret a h=>exact i _ _ H
 | no=>exact H
 | rq b t ih=>exact req.go H fun e H=>zoA e (ih H)
 | bs b t e i1 i2=>exact br.go H (fun e H=>br_t e (i1 H)) fun e H=>br_f e (i2 H)
 | os o k ih=>exact opt.go H fun a e H=>zbM e (ih a H)
 | al o k n i1 i2=>
  induction o with
  | none=>exact i2 H
  | some a=>exact i1 a H
 | Rq b t ih=>exact Rq.go H fun e H=> .t e (ih H)
 | Br b t e i1 i2=>exact Br.go H (fun e H=> .t e (i1 H)) fun e H=> .f e (i2 H)
 | Op d o k ih=>exact Op.go H fun a e H=> .s a e (ih a H)
 | Al d o k n i1 i2=>exact Al.go H (fun a e H=> .s a e (i1 a H)) fun e H=> .n e (i2 H)
 | rs x b k ih=>exact res.casesOn H fun y e c H=> .mk y e c (ih y H)
 | mp d f xs k ih=>exact mapK.casesOn H fun is e H=> .mk is e (ih is H)
 | eq xs ys k ih=>exact eqL.casesOn H (fun e H=> .len e (ih _ H)) (fun a b ea eb ca cb H=> .strs a b ea eb ca cb (ih _ H)) fun a b ea eb H=> .ints a b ea eb (ih _ H)
section
variable {T:Tabs} {P:PM T} {fr:Fr} {t:Expr} {ifs:List Expr} {inner:Hp→(Hp→Prop)→Prop} {it a k:Nat} {h g:Hp} {xs:List AV} {In:Nat→Hp→Prop} {adv:Nat→Hp→Hp} {fin:Hp→Hp} {b:List Stmt} {em:Em}
theorem JN.wk{K:Option AV→Hp→Prop}(w:Wk h g)(e:g.nx=h.nx)(H:JN P t it g K):JN P t it h K:=fun A E Q s W G hr k1 k2=>H A E Q s W ⟨G.room,G.rel.wk w⟩ (e▸hr) (e.symm▸k1) (e.symm▸k2)
theorem JN.mono{K K':Option AV→Hp→Prop}(H:JN P t it h K)(i:∀o h,K o h→K' o h):JN P t it h K':=fun A E Q s W G hr k1 k2=>H A E Q s W G hr (fun W' h' s' S q=>k1 W' h' s' S (i _ _ q)) fun v s' z=>k2 v s' (wpAny_mono z (fun X X z=>z.imp fun X=> .imp fun x=> .imp fun X=> .imp_right (.imp_right (i _ _))) fun X X q=>q)
theorem GJ.mono{K K':Hp→Prop}(i:∀h,K h→K' h)(H:GJ P fr t ifs inner it h K):GJ P fr t ifs inner it h K':=H.go.elim fun I H=>H.elim fun k H=>⟨I,k,H.1,fun k h' z=>⟨(H.2 k h' z).1,JN.mono (H.2 k h' z).2 fun o h q=>by
 induction o with
 | none=>exact i _ q
 | some x=>exact q⟩⟩
theorem zfc:∀(rest:List Comprehension) (h:Hp) (K K':Hp→Prop),(∀h,K h→K' h)→zgf P fr (emP P fr em) rest h K→zgf P fr (emP P fr em) rest h K'
 | [],h,K,K',i,H=>by
  induction em with
  | L elt a=>exact zik h K K' i H
  | D kx vx a=>exact zgh h K K' i H
 | g :: r,h,K,K',i,H=>J.mono H fun X X H=>Tr.mono (fun X X H=>opt.go H fun a e H=>zbM e (req.go H fun e H=>zoA e (H.mono i))) _ H
def Ld(I:Nat→Hp→Prop)(k:Nat)(h:Hp):Prop:=∃g,Wk h g∧g.nx=h.nx∧I k g
theorem Ld.on{I:Nat→Hp→Prop}{a₁:Hp}(e:g.nx=h.nx)(H:On I g.nx k a₁):On (Ld I) h.nx k a₁:=⟨H.go.imp fun h'=> .imp fun j z=>⟨z.1,e▸z.2.1,z.2.2.1,h', .refl,rfl,z.2.2.2⟩⟩
theorem GJ.start{K:Hp→Prop}(mono:∀h (K K':Hp→Prop),(∀h,K h→K' h)→inner h K→inner h K')(w:Wk h g)(e:g.nx=h.nx)(H:GJ P fr t ifs inner it g K):GJ P fr t ifs inner it h K:=H.go.elim fun I H=>H.elim fun k H=>⟨Ld I,k,⟨g,w,e,H.1⟩,fun k h' z=>z.elim fun g' z=>⟨z.2.1▸(H.2 k g' z.2.2).1, .wk z.1 z.2.1 (JN.mono (H.2 k g' z.2.2).2 fun o h' q=>by
 induction o with
 | none=>exact q
 | some x=>exact J.mono q fun X X q=>J.mono q fun ok X q=>q.go (fun c q=> .t c (mono _ _ _ (fun X=>Ld.on e) q)) fun c q=> .f c (Ld.on e q))⟩⟩
theorem ForJ.start{K:Fl→Hp→Prop}(w:Wk h g)(e:g.nx=h.nx)(H:ForJ P fr t b it g K):ForJ P fr t b it h K:=H.go.elim fun I H=>H.elim fun k H=>⟨Ld I,k,⟨g,w,e,H.1⟩,fun k h' z=>z.elim fun g' z=>⟨z.2.1▸(H.2 k g' z.2.2).1, .wk z.1 z.2.1 (JN.mono (H.2 k g' z.2.2).2 fun o h' q=>by
 induction o with
 | none=>exact q
 | some x=>exact J.mono q fun X X q=>J.mono q fun X X q=>zeK (fun X=>Ld.on e) q)⟩⟩
end
section
variable {T:Tabs} (P:PM T)
def emW(fr:Fr)(em:Em)(N:Hp→Prop)(h:Hp):Wt:=Em.casesOn (motive:=fun X=>Wt) em (fun elt a=>v P fr 40 (.E elt fun u h=> .fz u h fun u h=> .pu (zuG a u h) fun X h=> .en .none h fun X=>N) h) fun kx vx a=>v P fr 40 (.E kx fun z h=>v P fr 40 (.E vx fun u h=> .pu (zs5 a z u h) fun X h=> .en .none h fun X=>N) h) h
def zun(fr:Fr)(em:Em)(rest:List Comprehension)(N:Hp→Prop)(h:Hp):Wt:=List.casesOn (motive:=fun X=>Wt) rest (emW P fr em N h) fun g r=>v P fr 40 (.E g.iter fun x h=> .pu (zk0 x h) fun u h=>osW u.ref? h fun it=>rqW (zny (h.at_ it)) h (.gj fr g.target g.ifs r em it h fun h=> .en .none h fun X=>N)) h
def zsP(fr:Fr)(t:Expr)(ifs:List Expr)(rest:List Comprehension)(em:Em)(N:Hp→Prop)(x:AV)(h:Hp):Wt:=v P fr 40 (.A t x fun X h=>v P fr 40 (.L ifs fun ok h=>cond ok (zun P fr em rest N h) (.en .none h fun X=>N)) h) h
noncomputable def zhI(N:Hp→Prop)(K:Fl→Hp→Wt)(x:Fl)(h:Hp):Wt:=Fl.casesOn (motive:=fun X=>Wt) x (.en .none h fun X=>N) (K .next h) (.en .none h fun X=>N) fun v=>K (.ret v) h
def zsO(fr:Fr)(t:Expr)(b:List Stmt)(N:Hp→Prop)(K:Fl→Hp→Wt)(h:Hp):Wt:=v P fr 40 (.T t fun c h=>BrW c h (v P fr 40 (.Ss b (zhI N K)) h) (K .next h)) h
def zfM(fr:Fr)(t:Expr)(b:List Stmt)(N:Hp→Prop)(K:Fl→Hp→Wt)(x:AV)(h:Hp):Wt:=v P fr 40 (.A t x fun X h=>v P fr 40 (.Ss b (zhI N K)) h) h
end
def Iv{ι:Type}(H:ι→Nat→Hp)(R:ι→Nat→Prop)(k:Nat)(h:Hp):Prop:=∃i,R i k∧h=H i k
namespace Wt
noncomputable def git(w:Wt):Nat:=w.cs 0 (fun X X X=>0) (fun X X X=>0) (fun X X X X X=>0) (fun X X X X X it X X=>it) fun X X X X it X X=>it
noncomputable def gt(w:Wt):Expr:=w.cs default (fun X X X=>default) (fun X X X=>default) (fun X X X X X=>default) (fun X t X X X X X X=>t) fun X X t X X X X=>t
noncomputable def isG(w:Wt):Bool:=w.cs false (fun X X X=>false) (fun X X X=>false) (fun X X X X X=>false) (fun X X X X X X X X=>true) fun wl X X X X X X=>!wl
noncomputable def isF(wl:Bool)(w:Wt):Bool:=w.cs false (fun X X X=>false) (fun X X X=>false) (fun X X X X X=>false) (fun X X X X X X X X=>false) fun wl' X X X X X X=>wl==wl'
def tw{T:Tabs}(P:PM T)(w:Wt)(N:Hp→Prop)(x:AV)(h:Hp):Wt:=w.cs (.lf False) (fun X X X=> .lf False) (fun X X X=> .lf False) (fun X X X X X=> .lf False) (fun fr t ifs rest em X X X=>zsP P fr t ifs rest em N x h) fun wl fr t b X X k=>cond wl (zsO P fr t b N k h) (zfM P fr t b N k x h)
noncomputable def kf(w:Wt):Fl→Hp→Wt:=w.cs (fun X X=> .lf False) (fun X X X X X=> .lf False) (fun X X X X X=> .lf False) (fun X X X X X X X=> .lf False) (fun X X X X X X X X X X=> .lf False) fun X X X X X X k=>k
noncomputable def kh(w:Wt)(h:Hp):Wt:=w.cs (.lf False) (fun X X X=> .lf False) (fun X X X=> .lf False) (fun X X X X X=> .lf False) (fun X X X X X X X k=>k h) fun X X X X X X k=>k .next h
section
variable {T:Tabs} {P:PM T} {w:Wt} {xs:List AV} {In:Nat→Hp→Prop} {adv:Nat→Hp→Hp} {fin:Hp→Hp} {ι α:Type} {fr:Fr} {em:Em} {rest:List Comprehension} {N:Hp→Prop} {h:Hp} {k n:Nat} {H:ι→Nat→Hp} {R:ι→Nat→Prop}
theorem zrt(B:Tbl T P.c)(Q:(emW P fr em N h).sem P):emP P fr em h N:=by
 induction em with
 | L elt a=>exact zgx B 40 (fr:=fr) (c:= .E elt _) (h:=h) Q
 | D kx vx a=>exact J.mono (zgx B 40 (fr:=fr) (c:= .E kx _) (h:=h) Q:JE P fr kx h _) fun X h q=>zgx B 40 (fr:=fr) (c:= .E vx _) (h:=h) q
theorem zpk(B:Tbl T P.c)(Q:(zun P fr em rest N h).sem P):zgf P fr (emP P fr em) rest h N:=by
 induction rest using cL with
 | nil=>exact zrt B Q
 | cons g r=>exact zgx B 40 (fr:=fr) (c:= .E g.iter _) (h:=h) Q
theorem loop0(B:Tbl T P.c)(n:Nat)(D:Iter P w.gt w.git xs In adv fin)(H:ι→Nat→Hp)(R:ι→Nat→Prop)(i0:ι)(wk:Wk w.hp (H i0 0))(h0:R i0 0)(hl:∀i k,R i k→Nat.blt w.git (H i k).nx=true∧In k (H i k))
  (hb:∀i k x,xs[k]? = some x→R i k→(w.tw P (On1 (Iv H R) n k) x (adv k (H i k))).sem P) (he:∀i,R i xs.length→(w.kh (fin (H i xs.length))).sem P) (g0:autoParam ((w.isG,(H i0 0).nx,w.hp.nx)=(true,n,n)) Mine.kr1):w.nf.sem P:=by
 obtain ⟨g1,en,e⟩:w.isG=true∧(H i0 0).nx=n∧(H i0 0).nx=w.hp.nx:=⟨congrArg (·.1) g0,congrArg (·.2.1) g0,(congrArg (·.2.1) g0).trans (congrArg (·.2.2) g0).symm⟩
 clear g0
 subst en
 revert D
 revert wk
 revert hl
 revert hb
 revert he
 revert g1
 revert e
 unfold isG gt git hp tw kh cs
 induction w.nf using Wt.casesOn with
 | gj fr t ifs rest em it h K=>exact fun e g1 he hb hl wk D=>GJ.start (zfc rest) wk e (.of (zfc rest) D (Iv H R) ⟨i0,h0,rfl⟩ (fun k h ⟨i,r,e⟩=>e▸(hl i k r).imp blt id) (fun k x h' ex ⟨i,r,e⟩=>e▸J.mono (zgx B 40 (hb i k x ex r):JA' ..) fun X X q=>J.mono (zgx B 40 q:zpZ ..) fun ok X q=>by
   induction ok with
   | true=>exact .t rfl (zpk B q)
   | false=>exact .f rfl q) fun h ⟨i,r,e⟩=>e▸he i r)
 | fj wl fr t b it h K=>
  induction wl with
  | true=>exact fun X g1=>nb g1
  | false=>
  exact fun e g1 he hb hl wk D=>ForJ.start wk e (.of D (Iv H R) ⟨i0,h0,rfl⟩ (fun k h ⟨i,r,e⟩=>e▸(hl i k r).imp blt id) (fun k x h' ex ⟨i,r,e⟩=>e▸J.mono (zgx B 40 (fr:=fr) (c:= .A t x fun X h=>v P fr 40 (.Ss b (zhI _ K)) h) (hb i k x ex r):JA' ..) fun X X q=>J.mono (zgx B 40 q:JSs ..) fun x X q=>by
   induction x with
   | _=>exact q) fun h ⟨i,r,e⟩=>e▸he i r)
 | _=>exact fun X g1=>nb g1
end
end Wt
theorem zp4{α β:Type}{f:α→β}{z:List α}{x:β}{k:Nat}(e:(z.map f)[k]? = some x):∃c,z[k]? = some c∧x=f c:=(jE (List.getElem?_map▸e)).imp fun X=> .imp_right Eq.symm
namespace Sm
theorem via{T:Tabs}{P:PM T}{w:Wt}(w':Wt)(H:Sm P w')(q:autoParam (w.nf=w'.nf) Mine.kr1):Sm P w:=⟨q▸H.go⟩
theorem viaF{T:Tabs}{P:PM T}{w:Wt}(fr:Fr)(t:Expr)(b:List Stmt)(it:Nat)(H:Sm P (.fj false fr t b it w.hp w.kf))(q:autoParam (w.nf=(Wt.fj false fr t b it w.hp w.kf).nf) Mine.kr1):Sm P w:= .via _ H q
section
variable {T:Tabs} {P:PM T} {w:Wt} {In:Nat→Hp→Prop} {adv:Nat→Hp→Hp} {fin:Hp→Hp} {ι α:Type} {z:List α} {f:α→AV} {p c:Int} {m:Nat} {xs:List AV} {n k:Nat} {H:ι→Nat→Hp} {R:ι→Nat→Prop}
theorem next(n:Nat)(H:ι→Nat→Hp)(R:ι→Nat→Prop)(k:Nat)(i:ι)(wk:Wk w.hp (H i (k+1)))(r:R i (k+1))(q:autoParam (w.lq=fun X=>On1 (Iv H R) n k) Mine.kr1)(le:autoParam (Nat.ble n (H i (k+1)).nx=true) Mine.kr1):Sm P w:=⟨Wt.fin0 (q▸⟨_,wk,jL le,i,r,rfl⟩)⟩
theorem loop(B:Tbl T P.c)(n:Nat)(D:Iter P w.gt w.git xs In adv fin)(H:ι→Nat→Hp)(R:ι→Nat→Prop)(i0:ι)(wk:Wk w.hp (H i0 0))(h0:R i0 0)(hl:∀i k,R i k→Nat.blt w.git (H i k).nx=true∧In k (H i k))
  (hb:∀i k x,xs[k]? = some x→R i k→Sm P (w.tw P (On1 (Iv H R) n k) x (adv k (H i k)))) (he:∀i,R i xs.length→Sm P (w.kh (fin (H i xs.length)))) (g0:autoParam ((w.isG,(H i0 0).nx,w.hp.nx)=(true,n,n)) Mine.kr1):Sm P w:=
 ⟨Wt.loop0 B n D H R i0 wk h0 hl (fun i k x e r=>(hb i k x e r).sem) (fun i r=>(he i r).sem) g0⟩
theorem loopM(B:Tbl T P.c)(n:Nat)(D:Iter P w.gt w.git (z.map f) In adv fin)(H:ι→Nat→Hp)(R:ι→Nat→Prop)(i0:ι)(wk:Wk w.hp (H i0 0))(h0:R i0 0)(hl:∀i k,R i k→Nat.blt w.git (H i k).nx=true∧In k (H i k))
  (hb:∀i k c,z[k]? = some c→R i k→Sm P (w.tw P (On1 (Iv H R) n k) (f c) (adv k (H i k)))) (he:∀i,R i z.length→Sm P (w.kh (fin (H i z.length)))) (g0:autoParam ((w.isG,(H i0 0).nx,w.hp.nx)=(true,n,n)) Mine.kr1):Sm P w:=
 loop B n D H R i0 wk h0 hl (fun i k x e r=>(zp4 e).elim fun c q=>q.2▸hb i k c q.1 r) (fun i r=>by rw [List.length_map] at r⊢;exact he i r) g0
theorem zrf(B:Tbl T P.c)(n:Nat)(D:Iter P w.gt w.git ((zci p c m).map .int) In adv fin)(H:ι→Nat→Hp)(R:ι→Nat→Prop)(i0:ι)(wk:Wk w.hp (H i0 0))(h0:R i0 0)(hl:∀i k,R i k→Nat.blt w.git (H i k).nx=true∧In k (H i k))
  (hb:∀i k,k<m→R i k→Sm P (w.tw P (On1 (Iv H R) n k) (.int (p+k*c)) (adv k (H i k)))) (he:∀i,R i m→Sm P (w.kh (fin (H i m)))) (g0:autoParam ((w.isG,(H i0 0).nx,w.hp.nx)=(true,n,n)) Mine.kr1):Sm P w:=
 loop B n D H R i0 wk h0 hl (fun i k x e r=>(zc1 e).2▸hb i k (zc1 e).1 r) (fun i r=>by rw [List.length_map,zci,List.length_map,List.length_range] at r⊢;exact he i r) g0
end
end Sm
section
variable {α:Type} {f:α→Option AV} {g:α→AV} {z:List α} {acc:List AV} {c:α} {d:AV} {n k:Nat}
def Fm(f:α→Option AV)(z:List α)(acc:List AV)(k:Nat):Prop:=acc=(z.take k).filterMap f
theorem Fm.one(r:Fm f z acc k)(e:z[k]? = some c)(q:f c=some d):Fm f z (acc ++ [d]) (k+1):=by unfold Fm at r⊢;rw [List.take_succ,e,List.filterMap_append,←r];simp [q]
theorem Fm.no(r:Fm f z acc k)(e:z[k]? = some c)(q:f c=none):Fm f z acc (k+1):=by unfold Fm at r⊢;rw [List.take_succ,e,List.filterMap_append,←r];simp [q]
theorem Fm.len(r:Fm f z acc k)(h:z.length<n):Nat.ble acc.length.succ n=true:=Nat.ble_eq_true_of_le (lE (r▸lT (List.length_filterMap_le ..) (List.length_take_le' ..)) h)
theorem Fm.all(r:Fm f z acc z.length):acc=z.filterMap f:=by unfold Fm at r;rwa [List.take_length] at r
def Mp1(f:α→AV)(z:List α)(acc:List AV)(k:Nat):Prop:=acc=(z.take k).map f
theorem Mp1.next(r:Mp1 g z acc k)(e:z[k]? = some c):Mp1 g z (acc ++ [g c]) (k+1):=by unfold Mp1 at r⊢;rw [List.take_succ,e,List.map_append,←r];rfl
theorem Mp1.len(r:Mp1 g z acc k)(h:z.length<n):Nat.ble acc.length.succ n=true:=Nat.ble_eq_true_of_le (lE (by rw [r,List.length_map];exact List.length_take_le' ..) h)
theorem Mp1.all(r:Mp1 g z acc z.length):acc=z.map g:=by unfold Mp1 at r;rwa [List.take_length] at r
end
theorem Wk.to{h g:Hp}(L:Nat)(l:List (Str×AV))(hf:autoParam ((h.at_ L).frame?.isSome=true) Mine.kr1)(e1:autoParam ((l.map fun p=>((h.at_ L).frame?.getD []).lookup p.1)=l.map fun p=>some p.2) Mine.kr1)(e2:autoParam ((List.range g.nx).map (h.set L (.frame l)).at_=(List.range g.nx).map g.at_) Mine.kr1)(b:autoParam ((Nat.ble g.nx h.nx&&(List.range g.nx).all fun k=>!(g.at_ k).live || (g.at_ k).bf g.nx)=true) Mine.kr1):Wk h g:=by
 obtain ⟨l',q⟩:=iE hf
 exact (Wk.frm q (by rw [q] at e1;exact e1)).trans (.cut e2 b)
theorem Wk.ct{h g:Hp}(e:autoParam ((List.range g.nx).map h.at_=(List.range g.nx).map g.at_) Mine.kr1)(b:autoParam ((Nat.ble g.nx h.nx&&(List.range g.nx).all fun k=>!(g.at_ k).live || (g.at_ k).bf g.nx)=true) Mine.kr1):Wk h g:= .cut e b
section
variable {T:Tabs} {P:PM T} {K:AV→Hp→Prop} {h:Hp}
def pW(P:PM T)(d:FDat×List AV)(args:List AV)(r:AV):Wt:=zkQ P d.1 [] d.2 args [] (Hp.of []) fun v h=> .en v h fun v X=>v=r
theorem zc2{a:Nat}{d:FDat×List AV}{args:List AV}{r:AV}(B:Tbl T P.c)(H:Sm P (pW P d args r))(k:K r h)(e:autoParam (T.defs a=some d) Mine.kr1)(ho:autoParam (znr d.1=true) Mine.kr1)(b:autoParam (((AV.glob a).bd 0&&args.all (AV.bd 0)&&r.bd 0)=true) Mine.kr1):za6 P.up (.glob a) args [] h K:=zkD b (zde B e ho H.sem) k
def DK(r:AV)(os:List AO)(v:AV)(E:Hp):Prop:=v=r∧E=Hp.of os
def dW(P:PM T)(d:FDat×List AV)(args:List AV)(kw:List (Str×AV))(os:List AO)(r:AV)(os':List AO):Wt:=zkQ P d.1 [] d.2 args kw (Hp.of os) fun v h=> .en v h (EndK os.length (DK r os'))
theorem zb0{a:Nat}{d:FDat×List AV}{args:List AV}{kw:List (Str×AV)}{os os':List AO}{r:AV}(B:Tbl T P.c)(H:Sm P (dW P d args kw os r os'))(e:autoParam (T.defs a=some d) Mine.kr1)(ho:autoParam (znr d.1=true) Mine.kr1):za6 P.up (.glob a) args kw (Hp.of os) (DK r os'):=zeA (zde B e ho H.sem)
noncomputable def Wt.nd(w:Wt)(σ:List Nat)(r:AV)(os:List AO):Wt:=w.nh σ r (Hp.of os)
namespace Sm
theorem callD{w:Wt}{f r:AV}{as:List AV}{kw:List (Str×AV)}{os os':List AO}(C:za6 P f as kw (Hp.of os) (DK r os'))(σ:List Nat)(H:Sm P (w.nd σ r os'))(e:autoParam (w.clA=some (f.ren (gl σ),as.map (AV.ren (gl σ)),kw.map fun e=>(e.1,e.2.ren (gl σ)))) Mine.kr1)(e1:autoParam (σ.map w.hp.at_=os.map (AO.ren (gl σ))) Mine.kr1)
  (b:autoParam (((os.all (AO.bd os.length)&&os.all (fun o=>(o.ren id).live)&&nd σ&&σ.all fun k=>Nat.blt k w.hp.nx)&&(f.bd os.length&&as.all (AV.bd os.length)&&kw.all fun e=>e.2.bd os.length))=true) Mine.kr1):Sm P w:=
 callH C σ (fun v E q=>by obtain ⟨rfl,rfl⟩:=q;exact H) e e1 b
theorem endD{w:Wt}(n:Nat)(r:AV)(os:List AO)(σ:List Nat)(q:autoParam (w.lq=EndK n (DK r os)) Mine.kr1)(e:autoParam (σ.map w.hp.at_=os.map (AO.ren (gl σ))) Mine.kr1)(b1:autoParam ((os.all (AO.bd os.length)&&os.all (fun o=>(o.ren id).live)&&nd σ&&σ.all fun k=>Nat.blt k w.hp.nx)=true) Mine.kr1)
  (b:autoParam (((List.range n).all (fun j=>Nat.beq (gl σ j) j)&&Nat.ble n os.length&&r.bd os.length)=true) Mine.kr1) (ev:autoParam (w.vf=r.ren (gl σ)) Mine.kr1):Sm P w:=⟨Wt.fin0 (q▸ .mk σ os r e b1 b ev ⟨rfl,rfl⟩)⟩
theorem endE{w:Wt}(n:Nat)(r:AV)(os:List AO)(σ:List Nat)(r':AV)(er:r=r')(q:autoParam (w.lq=EndK n (DK r os)) Mine.kr1)(e:autoParam (σ.map w.hp.at_=os.map (AO.ren (gl σ))) Mine.kr1)(b1:autoParam ((os.all (AO.bd os.length)&&os.all (fun o=>(o.ren id).live)&&nd σ&&σ.all fun k=>Nat.blt k w.hp.nx)=true) Mine.kr1)
  (b:autoParam (((List.range n).all (fun j=>Nat.beq (gl σ j) j)&&Nat.ble n os.length&&r'.bd os.length)=true) Mine.kr1) (ev:autoParam (w.vf=r'.ren (gl σ)) Mine.kr1):Sm P w:=by
 subst er
 exact endD n r os σ q e b1 b ev
end Sm
end
theorem bt{a b:Nat}(h:a≤b):Nat.ble a b=true:=Nat.ble_eq_true_of_le h
theorem an{x y:Bool}(a:x=true)(b:y=true):(x&&y)=true:=Bool.and_eq_true_iff.mpr ⟨a,b⟩
section
variable {T:Tabs} {P:PM T} {h:Hp} {K:AV→Hp→Prop} {args:List AV} {kw:List (Str×AV)} {r:Nat}
theorem zmL{p:AV×Nat}{d:FDat×List AV}(e:(h.at_ r).bound? = some p)(ed:T.defs p.2=some d)(C:za6 P (.glob p.2) (p.1 :: args) kw h K):za6 P (.ref r) args kw h K:=fun A E Q s W fv vs kv hR R Vf Va Vk kn=>by
 obtain ⟨hr,rfl⟩:=Vf
 obtain ⟨ob,k2,sv,rfl,k3⟩:=R.obj hr (AO.bound?_is e) rfl
 obtain ⟨o,fd',f1,f2,X⟩:=zkg (P:=P) R ed
 exact ⟨⟨.boundFrame, .inr (.inr rfl),(Looks.ld (part:=none) k2).andThen ((Looks.ld (part:=none) f1).andThen (by rw [f2];exact .now))⟩,ziv (P:=P) k2 (C A E Q s W (.ref p.2) (sv :: vs) kv hR R rfl (.cons k3 Va) Vk kn).2⟩
end
def OnI{ι:Type}(H:ι→Hp)(m:ι→Nat)(R:ι→Prop)(n k:Nat)(h:Hp):Prop:=∃j,Wk h (H j)∧n≤(H j).nx∧m j<k∧R j
namespace Wt
section
variable {T:Tabs} {P:PM T} {w:Wt} {ι:Type}
theorem loopX(B:Tbl T P.c)(n:Nat)(H:ι→Hp)(m:ι→Nat)(R:ι→Prop)(i0:ι)(wk:Wk w.hp (H i0))(h0:R i0)(g0:(w.isF false,(H i0).nx,w.hp.nx)=(true,n,n))
  (hs:∀i,R i→Nat.blt w.git (H i).nx=true∧JN P w.gt w.git (H i) fun o h'=>Option.casesOn (motive:=fun X=>Prop) o ((w.kh h').sem P) fun x=>(w.tw P (OnI H m R n (m i)) x h').sem P):w.nf.sem P:=by
 obtain ⟨g1,en,e⟩:w.isF false=true∧(H i0).nx=n∧(H i0).nx=w.hp.nx:=⟨congrArg (·.1) g0,congrArg (·.2.1) g0,(congrArg (·.2.1) g0).trans (congrArg (·.2.2) g0).symm⟩
 clear g0
 subst en
 revert wk
 revert hs
 revert g1
 revert e
 unfold isF gt git hp tw kh cs
 induction w.nf using Wt.casesOn with
 | fj wl fr t b it h K=>
  induction wl with
  | true=>exact fun X g1=>nb g1
  | false=>
  exact fun e X hs wk=>ForJ.start wk e ⟨fun k h=>∃j,m j=k∧R j∧h=H j,m i0,⟨i0,rfl,h0,rfl⟩,fun k h ⟨j,ek,r,eh⟩=>by
   subst ek eh
   exact ⟨blt (hs j r).1,JN.mono (hs j r).2 fun o h q=>by
    induction o with
    | none=>exact q
    | some x=>
     exact J.mono (zgx B 40 (fr:=fr) (c:= .A t x fun X h=>v P fr 40 (.Ss b (zhI _ K)) h) q:JA' ..) fun X X q=>J.mono (zgx B 40 q:JSs ..) fun x h q=>by
      have on:OnI H m R (H i0).nx (m j) h→On (fun k h=>∃j,m j=k∧R j∧h=H j) (H i0).nx (m j) h:=fun ⟨i,a,b,c,d⟩=>⟨H i,m i,a,b,c,i,rfl,d,rfl⟩
      induction x with
      | next | cont=>exact on q
      | _=>exact q⟩⟩
 | _=>exact fun X g1=>nb g1
theorem J.wk{ι α β:Type}{RI:Wd→Nat→ι→Prop}{RR:Wd→Nat→α→β→Prop}{t:ι→Sem β}{h g:Hp}{K:α→Hp→Prop}(w:Wk h g)(e:g.nx=h.nx)(H:J P RI RR t g K):J P RI RR t h K:=fun A E Q s W i G I k=>H A E Q s W i ⟨G.room,G.rel.wk w⟩ (e▸I) (e.symm▸k)
theorem loopW(B:Tbl T P.c)(n:Nat)(H:ι→Hp)(m:ι→Nat)(R:ι→Prop)(i0:ι)(wk:Wk w.hp (H i0))(h0:R i0)(g0:(w.isF true,(H i0).nx,w.hp.nx)=(true,n,n))(hs:∀i,R i→(w.tw P (OnI H m R n (m i)) .none (H i)).sem P):w.nf.sem P:=by
 obtain ⟨g1,en,e⟩:w.isF true=true∧(H i0).nx=n∧(H i0).nx=w.hp.nx:=⟨congrArg (·.1) g0,congrArg (·.2.1) g0,(congrArg (·.2.1) g0).trans (congrArg (·.2.2) g0).symm⟩
 clear g0
 subst en
 revert wk
 revert hs
 revert g1
 revert e
 unfold isF hp tw cs
 induction w.nf using Wt.casesOn with
 | fj wl fr t b it h K=>
  induction wl with
  | false=>exact fun X g1=>nb g1
  | true=>
  exact fun e X hs wk=>⟨fun k h'=>∃j,m j=k∧R j∧Wk h' (H j)∧(H j).nx=h'.nx,m i0,⟨i0,rfl,h0,wk,e⟩,fun k h' ⟨j,ek,r,w',e'⟩=>by
   subst ek
   exact J.wk w' e' (J.mono (zgx B 40 (fr:=fr) (c:= .T t fun c h=>BrW c h (v P fr 40 (.Ss b (zhI _ K)) h) (K .next h)) (hs j r):JT ..) fun c X q=>Br.go q (fun z q=> .t z (J.mono (zgx B 40 (fr:=fr) (c:= .Ss b (zhI _ K)) q:JSs ..) fun x h q=>by
    have on:OnI H m R (H i0).nx (m j) h→On (fun k h'=>∃j,m j=k∧R j∧Wk h' (H j)∧(H j).nx=h'.nx) _ (m j) h:=fun ⟨i,a,b,c,d⟩=>⟨H i,m i,a,e▸b,c,i,rfl,d, .refl,rfl⟩
    induction x with
    | next | cont=>exact on q
    | _=>exact q)) fun z q=> .f z q)⟩
 | _=>exact fun X g1=>nb g1
end
end Wt
namespace Sm
section
variable {T:Tabs} {P:PM T} {w:Wt} {ι κ:Type}
theorem whl{T:Tabs}{P:PM T}{w:Wt}{ι:Type}(B:Tbl T P.c)(n:Nat)(H:ι→Hp)(m:ι→Nat)(R:ι→Prop)(i0:ι)(wk:Wk w.hp (H i0))(h0:R i0)(hs:∀i,R i→Sm P (w.tw P (OnI H m R n (m i)) .none (H i)))(g0:autoParam ((w.isF true,(H i0).nx,w.hp.nx)=(true,n,n)) Mine.kr1):Sm P w:=⟨Wt.loopW B n H m R i0 wk h0 g0 fun i r=>(hs i r).sem⟩
theorem nextI(n:Nat)(H:ι→Hp)(m:ι→Nat)(R:ι→Prop)(k:Nat)(j:ι)(wk:Wk w.hp (H j))(hm:m j<k)(r:R j)(q:autoParam (w.lq=fun X=>OnI H m R n k) Mine.kr1)(le:autoParam (Nat.ble n (H j).nx=true) Mine.kr1):Sm P w:=⟨Wt.fin0 (q▸⟨j,wk,jL le,hm,r⟩)⟩
end
end Sm
def Wt.nn(w:Wt)(σ:List Nat)(os:List AO)(a:Nat):Wt:=w.kc (.ref (w.hp.nx+1)) (((w.hp.new (.dict true [])).new (.inst a w.hp.nx)).patch σ (Hp.of os))
section
variable {T:Tabs} {P:PM T} {w:Wt} {K:AV→Hp→Prop} {h:Hp}
theorem Sm.newD{a m:Nat}{as args:List AV}{os os':List AO}(C:za6 P (.glob m) as [] (Hp.of os) (DK .none os'))(σ:List Nat)(H:Sm P.up (w.nn σ os' a))(e:autoParam (w.clA=some (.glob a,args,[])) Mine.kr1)(em:autoParam (zb3 T a [95,95,105,110,105,116,95,95]=some m) Mine.kr1)(e2:autoParam (AV.ref (w.hp.nx+1) :: args=as.map (AV.ren (gl σ))) Mine.kr1)
  (e1:autoParam (σ.map ((w.hp.new (.dict true [])).new (.inst a w.hp.nx)).at_=os.map (AO.ren (gl σ))) Mine.kr1)
  (b:autoParam (((os.all (AO.bd os.length)&&os.all (fun o=>(o.ren id).live)&&nd σ&&σ.all fun k=>Nat.blt k ((w.hp.new (.dict true [])).new (.inst a w.hp.nx)).nx)&&((AV.glob m).bd os.length&&as.all (AV.bd os.length)&&([]:List (Str×AV)).all fun e=>e.2.bd os.length))=true) Mine.kr1):Sm P.up w:=
 ⟨Wt.call0 e (zmJ em (zkE ⟨e1,(aI b).1⟩ C (aI b).2 rfl e2 rfl fun v E q=>by
  obtain ⟨rfl,rfl⟩:=q
  exact H.sem))⟩
def kW(P:PM T)(fd:FDat)(cl:List (Str×Nat))(args:List AV)(os:List AO)(r:AV)(os':List AO):Wt:=zkQ P fd cl [] args [] (Hp.of os) fun v h=> .en v h (EndK os.length (DK r os'))
theorem zqb{fd:FDat}{cl:List (Str×Nat)}{k:Nat}{args:List AV}{os os':List AO}{r:AV}(B:Tbl T P.c)(H:Sm P (kW P fd cl args os r os'))(e:autoParam (((Hp.of os).at_ k).clo? = some (fd,cl)) Mine.kr1)(ho:autoParam (znr fd=true) Mine.kr1)(ht:autoParam (fd.tab=none) Mine.kr1):za6 P.up (.ref k) args [] (Hp.of os) (DK r os'):=zeA (zmK B e ho ht H.sem)
theorem zmI{f:AV}{kw:List (Str×AV)}{k:Nat}{xs:List SV}:∀{as as':List AV},h.at_ k = .list false (xs.map SV.av)→Rs (fun a b=>b=a∨(a = .ref k∧b = .lst xs)) as as'→za6 P f as' kw (h.set k .other) K→za6 P f as kw h K:=fun {as as'} e r C A E Q s W fv vs kv hR R Vf Va Vk kn=>by
 by_cases hk:k<h.nx
 ·obtain ⟨W',S,ws,m,z,rs⟩:=Step.frzL R hk e
  refine C A E Q s W' fv vs kv hR S.rel (VR.up S.le Vf) ?_ (KR.up S.le Vk) (kn.after S)
  clear C Vk Vf kn
  induction r generalizing vs with
  | nil=>cases Va;exact .nil
  | @cons a b _ _ q _ ih=>
   cases Va with
   | cons u t=>
    refine .cons (q.elim (fun q=>q▸VR.up S.le u) fun q=>?_) (ih _ t)
    rw [q.1] at u
    rw [q.2]
    exact ⟨_,ws,m,u.2,z,rs⟩
 ·refine C A E Q s W fv vs kv hR (R.wk (.drop k)) Vf ?_ Vk kn
  clear C Vk Vf kn
  induction r generalizing vs with
  | nil=>cases Va;exact .nil
  | @cons a b _ _ q _ ih=>
   cases Va with
   | cons u t=>
    refine .cons (q.elim (fun q=>q▸u) fun q=>?_) (ih _ t)
    rw [q.1] at u
    exact absurd u.1 hk
def zuo(k:Nat)(xs:List SV)(as:List AV):List AV:=as.map fun a=>cond (a.ref? == some k) (.lst xs) a
theorem zke{k:Nat}{xs:List SV}:∀as:List AV,Rs (fun a b=>b=a∨(a = .ref k∧b = .lst xs)) as (zuo k xs as)
 | []=> .nil
 | a :: r=> .cons (by
   induction e:a.ref? == some k with
   | true=>exact .inr ⟨AV.ref?_is (eq_of_beq e),congrArg (cond · _ _) e⟩
   | false=>exact .inl (congrArg (cond · _ _) e)) (zke r)
def Wt.na(w:Wt)(k:Nat)(xs:List SV):Wt:=w.cs (.lf False) (fun X X X=> .lf False) (fun X X X=> .lf False) (fun f as kw h kk=> .cl f (zuo k xs as) kw (h.set k .other) kk) (fun X X X X X X X X=> .lf False) fun X X X X X X X=> .lf False
theorem Sm.frzA(k:Nat)(xs:List SV)(H:Sm P (w.na k xs))(e:autoParam (w.hp.at_ k = .list false (xs.map SV.av)) Mine.kr1):Sm P w:=⟨by
 have H:=H.sem
 revert e H
 unfold Wt.na Wt.hp Wt.cs
 induction w.nf using Wt.casesOn with
 | cl f as kw h kk=>exact fun e H=>zmI e (zke as) H
 | _=>exact fun X=>False.elim⟩
noncomputable def PM.lv(P:PM T)(j:Nat):PM T:=Nat.rec (motive:=fun X=>PM T) P (fun X q=>q.up) j
theorem PM.lv_c(P:PM T):∀j,(P.lv j).c=P.c
 | 0=>rfl
 | j+1=>PM.lv_c P j
end
structure TabsL where
 gl:List (Str×AV)
 fns:List (Nat×FDat×List AV)
 meth:List (Nat×List (Str×Nat))
 attrs:List (Nat×List (List Nat))
 sets:List (Nat×List Int)
 maps:List (Nat×List (Int×List Nat))
 rxs:List (Nat×List Nat)
 tabs:List (Nat×Nat×Nat)
def bltT:List (Str×AV):=[("len",AV.bi .len),("ord", .bi .ord),("chr", .bi .chr),("divmod", .bi .divmod),("sum", .bi .sum),("min", .bi .min),("max", .bi .max),("sorted", .bi .sorted),("iter", .bi .iter),
  ("int", .ty .int),("str", .ty .str),("range", .ty .range),("list", .ty .list),("set", .ty .set),("enumerate", .ty .enumerate),("reversed", .ty .reversed),("type", .ty .type)]
def TabsL.to(T:TabsL):Tabs where
 glob:=fun x=>T.gl.lookup x
 blt:=fun x=>bltT.lookup x
 meth:=fun a=>(T.meth.lookup a).getD []
 attrs:=fun a=>(T.attrs.lookup a).getD []
 defs:=fun a=>T.fns.lookup a
 intSet:=fun a=>T.sets.lookup a
 intTab:=fun a=>T.maps.lookup a
 rx:=fun a=>(T.rxs.lookup a).map fun code=>fun s=>s.any (Mine.rxHit code.toArray)
structure StP where
 s:Str
 a:Arguments
 b:List Stmt
 o:List Stmt
 sc:Scope
 t:Expr
 e:Expr
 es:List Expr
 p:Pos
structure ExP where
 ks:List (Option Expr)
 vs:List Expr
 sc:Scope
 c:Const
 p:Pos
noncomputable def dS:StP:=⟨Str.ofString "",default,[],[],default,default,default,[],default⟩
noncomputable def dE:ExP:=⟨[],[],default, .none,default⟩
noncomputable def stP(st:Option Stmt):StP:=Option.casesOn (motive:=fun X=>StP) st dS fun st=>Stmt.casesOn (motive_2:=fun X=>StP) st (fun n a b X X X sc X X X=>⟨n,a,b,[],sc,default,default,[],default⟩) (fun X X X X X X X X X X=>dS) (fun X X X b X X X X X X X=>⟨Str.ofString "",default,b,[],default,default,default,[],default⟩) (fun X X=>dS) (fun X X=>dS) (fun ts e p=>⟨Str.ofString "",default,[],[],default,default,e,ts,p⟩) (fun X X X X X X X=>dS) (fun X X X X=>dS) (fun X X X X X=>dS) (fun t X b X X=>⟨Str.ofString "",default,b,[],default,t,default,[],default⟩) (fun X X X X X=>dS) (fun X X X X=>dS) (fun X b o X=>⟨Str.ofString "",default,b,o,default,default,default,[],default⟩) (fun X X X=>dS) (fun X X X=>dS) (fun X X X=>dS) (fun X X X=>dS) (fun X X X X X=>dS) (fun X X X X X=>dS) (fun X X X=>dS) (fun X X=>dS) (fun X X X X=>dS) (fun X X=>dS) (fun X X=>dS) (fun X X=>dS) (fun X=>dS) (fun X=>dS) (fun X=>dS)
noncomputable def exP(e:Expr):ExP:=Expr.casesOn (motive_1:=fun X=>ExP) e (fun X X X=>dE) (fun X X X=>dE) (fun X X X X=>dE) (fun X X X=>dE) (fun X X X X=>dE) (fun X X X X=>dE) (fun ks vs p=>⟨ks,vs,default, .none,p⟩) (fun X X X=>dE) (fun X X sc X=>⟨[],[],sc, .none,default⟩) (fun X X X X=>dE) (fun X X X sc X=>⟨[],[],sc, .none,default⟩) (fun X X X X=>dE) (fun X X=>dE) (fun X X=>dE) (fun X X=>dE) (fun X X X X=>dE) (fun X X X X=>dE) (fun X X X X=>dE) (fun X X=>dE) (fun c X X=>⟨[],[],default,c,default⟩) (fun X X X=>dE) (fun X X X=>dE) (fun X X=>dE) (fun X X=>dE) (fun X X=>dE) (fun X X X=>dE) (fun X X X X=>dE)
noncomputable def cI(c:Const):Int:=Const.casesOn (motive:=fun X=>Int) c 0 (fun X=>0) (fun i=>i) (fun X=>0) (fun X X=>0) (fun X=>0) (fun X=>0) 0
noncomputable def cS(c:Const):List Nat:=Const.casesOn (motive:=fun X=>List Nat) c [] (fun X=> []) (fun X=> []) (fun X=> []) (fun X X=> []) (fun s=>s.cps.toList) (fun X=> []) []
def zq8(tab:Option (Nat×Nat×Nat))(st:Option Stmt):FDat:=⟨(stP st).s,(stP st).a,(stP st).b,(stP st).sc,tab⟩
def zah(p:Program)(i:Nat)(tab:Option (Nat×Nat×Nat)):FDat:=zq8 tab p.main.body[i]?
def ziC(p:Program)(i j:Nat):FDat:=zq8 none (stP p.main.body[i]?).b[j]?
def zoJ(ks:List (Option Expr)):List Expr→List (Int×List Nat):=List.rec (motive:=fun X=>List Expr→List (Int×List Nat)) (fun X=> []) (fun k X q vs=>List.casesOn (motive:=fun X=>List (Int×List Nat)) vs [] fun v r=>(cI (exP (k.getD default)).c,cS (exP v).c) :: q r) ks
def zh3(p:Program)(i:Nat):List (Int×List Nat):=zoJ (exP (stP p.main.body[i]?).e).ks (exP (stP p.main.body[i]?).e).vs
def zeF(st:Option Stmt):List Stmt:=(stP st).b
def ifO(st:Option Stmt):List Stmt:=(stP st).o
def zig(st:Option Stmt):Expr:=(stP st).t
noncomputable abbrev pw3:=PySem.Challenge.pw_we0036_03
def T3r:TabsL where
 gl:= [("compute_powers", .glob 39),("_str_to_int_inner", .glob 46),("int_from_string", .glob 53),("_DIV_LIMIT", .int 4000),("_div2n1n", .glob 60),("_div3n2n", .glob 67),("_int2digits", .glob 74),("_digits2int", .glob 81),("_divmod_pos", .glob 88),("int_divmod", .glob 95),
  ("_netrclex", .glob 133),("b1_set", .glob 145),("in_table_b1", .glob 155),("b3_exceptions", .glob 156),("map_table_b3", .glob 201),("_name_disallowed_re", .glob 211),("_value_disallowed_re", .glob 216),("Headers", .glob 345),("_law_lexer", .glob 356),("_law_prepared", .glob 361),("_law_written", .glob 366),("_law_pair", .glob 373),("_law_text", .glob 380),
  ("_law_numbered", .glob 385),("_law_endless", .glob 390),("_law_brackets", .glob 395),("law", .glob 400)]
 fns:= [(39,zah pw3 2 (some (34,0,0)), [.bool false]),(46,zah pw3 3 (some (41,47,4)), []),(53,zah pw3 4 none, []),(60,zah pw3 6 none, []),(67,zah pw3 7 none, []),(74,zah pw3 8 (some (69,87,4)), []),(81,zah pw3 9 (some (76,102,4)), []),(88,zah pw3 10 none, []),(95,zah pw3 11 none, []),
  (109,ziC pw3 13 0, []),(116,ziC pw3 13 1, []),(123,ziC pw3 13 2, []),(130,ziC pw3 13 3, []),(155,zah pw3 16 none, []),(201,zah pw3 18 none, []),
  (239,ziC pw3 24 0, [.none]),(246,ziC pw3 24 1, []),(284,ziC pw3 24 7, []),(292,ziC pw3 24 8, [.none]),(335,ziC pw3 24 15, []),(342,ziC pw3 24 16, []),
  (356,zah pw3 26 (some (351,289,4)), []),(361,zah pw3 27 none, []),(366,zah pw3 28 none, []),(373,zah pw3 29 none, []),(380,zah pw3 30 none, []),(385,zah pw3 31 none, []),(390,zah pw3 32 none, []),(395,zah pw3 33 none, []),(400,zah pw3 34 none, [])]
 meth:= [(133, [("__init__",109),("_read_char",116),("get_token",123),("push_token",130)]),(345, [("__init__",239),("_convert_string_type",246),("get_all",284),("get",292),("setdefault",335),("add_header",342)])]
 attrs:= [(133, ["lineno".toList.map Char.toNat, "instream".toList.map Char.toNat, "whitespace".toList.map Char.toNat, "pushback".toList.map Char.toNat, "read".toList.map Char.toNat]),(345, ["_headers".toList.map Char.toNat])]
 sets:= [(145, [65024,65025,65026,65027,65028,65029,6150,65030,65031,65032,65033,6155,6156,6157,8203,8204,8205,65034,65035,65036,65037,65038,65039,173,847,8288,65279])]
 maps:= [(156,zh3 pw3 17)]
 rxs:= [(211, [14,10,4,1,1,22,0,31,16,127,0,13,7,22,0,31,16,127,0,1]),(216, [14,14,4,1,1,9,4294966783,0,0,2147483648,0,0,0,0,0,13,11,9,4294966783,0,0,2147483648,0,0,0,0,0,1])]
 tabs:= [(34,0,0),(41,47,4),(69,87,4),(76,102,4),(351,289,4)]
def T3:Tabs:=T3r.to
end Mn
end
section
open PySem PySem.W PyProof.Rows
namespace Mn
structure Bs where
 h:Heap
 g:Array GenState
 d:Drawn
 os:OsState
noncomputable def ext(h:Heap)(l:List Obj):Heap:=⟨h.objs++l.toArray,h.life⟩
def Bs.st(B:Bs)(l:List Obj)(t:Nat):Shared:=⟨ext B.h l,B.g,B.d,t,B.os⟩
noncomputable def dO(es:List DictEntry):Obj:={cls:= .type "dict",data:= .dict es.toArray es.length}
section
variable {B:Bs} {a b l:List Obj} {o:Obj} {t:Nat}
theorem zon:(ext B.h l).push o=ext B.h (l ++ [o]):=congrArg (Heap.mk · B.h.life) ((Array.append_push (xs:=B.h.objs) (ys:=l.toArray)).symm.trans (congrArg (B.h.objs ++ ·) (List.push_toArray ..)))
theorem zom:(ext B.h l).objs.size=B.h.objs.size+l.length:=Array.size_append
theorem zds(hf:o.isFreed=false):(B.st (a++o :: b) t).heap.get? (B.h.objs.size+a.length)=some o:=Heap.get?_some_iff.mpr ⟨by
 show (B.h.objs++(a++o :: b).toArray)[B.h.objs.size+a.length]? = some o
 rw [Array.getElem?_append_right (Nat.le_add_right ..),Nat.add_sub_cancel_left,List.getElem?_toArray,List.getElem?_append_right (rL _),Nat.sub_self]
 rfl,hf⟩
theorem zjN{α:Type}(f:α→α)(x:α)(b:List α):∀a:List α,(a++x :: b).modify a.length f=a++f x :: b
 | []=>rfl
 | y :: a=>congrArg (y :: ·) (zjN f x b a)
theorem zjM{α:Type}(f:α→α)(l:List α)(i:Nat):∀a:List α,(a++l).modify (a.length+i) f=a++l.modify i f
 | []=>by rw [List.length_nil,Nat.zero_add];rfl
 | y :: a=>by rw [List.length_cons,Nat.succ_add];exact congrArg (y :: ·) (zjM f l i a)
theorem zni(f:Obj→Obj):(ext B.h (a++o :: b)).update (B.h.objs.size+a.length) f=ext B.h (a++f o :: b):=congrArg (Heap.mk · B.h.life) (Array.toList_inj.mp (by
 rw [Array.toList_modify,Array.toList_append,Array.toList_append,←Array.length_toList,zjM,List.toList_toArray,zjN]))
end
def IK(e:DictEntry)(k:Int):Prop:=∃t,e.key = .int k t∧e.hash=hashInt k
def OkE(es:List DictEntry)(ks:List Int):Prop:=∃K,Rs IK es K∧(K++ks).Pairwise (· < ·)
theorem Rs.mem{α β:Type}{R:α→β→Prop}{xs:List α}{ys:List β}(h:Rs R xs ys):∀x,x∈xs→∃y,y∈ys∧R x y:=by
 induction h with
 | nil=>exact fun X m=>nomatch m
 | cons a X ih=>exact fun x m=>(cP m).elim (fun e=>⟨_,mS,e▸a⟩) fun m=>(ih x m).imp fun X q=>⟨mM _ q.1,q.2⟩
section
variable {es:List DictEntry} {ks:List Int} {k:Int} {e:DictEntry}
theorem OkE.keys(h:OkE es ks):IntKeys es.toArray:=fun e m=>h.elim fun X h=>(h.1.mem e (Array.mem_toList_iff.mpr m)).elim fun j q=>q.2.elim fun t z=>⟨j,t,z⟩
theorem OkE.none(h:OkE es (k :: ks)):(es.toArray.findIdx? fun e=>Value.isInt k e.key)=none:=Array.findIdx?_eq_none_iff.mpr fun e m=>h.elim fun X h=>(h.1.mem e (Array.mem_toList_iff.mpr m)).elim fun j q=>q.2.elim fun t z=>by
 rw [z.1]
 exact beq_false_of_ne (Int.ne_of_lt ((List.pairwise_append.mp h.2).2.2 j q.1 k mS))
theorem OkE.snoc(h:OkE es (k :: ks))(q:IK e k):OkE (es ++ [e]) ks:=h.elim fun K h=>⟨K ++ [k],h.1.app (.cons q .nil),by rw [List.append_assoc];exact h.2⟩
theorem OkE.sub{r:List Int}(h:OkE es (ks++r)):OkE [] ks:=h.elim fun X h=>⟨[], .nil,(List.pairwise_append.mp (List.pairwise_append.mp h.2).2.1).1⟩
end
section
variable {B:Bs} {a b l:List Obj} {o:Obj} {t:Nat} {prog:Program} {w:World} {A:Around} {E:Value→Shared→Prop} {es:List DictEntry} {ks:List Int} {k:Int} {tk:Tok} {v:Value} {Q:Unit→Shared→Prop}
theorem zkt(e:DictEntry):Obj.mapDictKeys (·.push e) (dO es)=dO (es ++ [e]):=by
 show ({cls:= .type "dict",data:= .dict (es.toArray.push e) (es.length+1)}:Obj)=_
 unfold dO
 rw [List.push_toArray,List.length_append]
 rfl
theorem zmC{e:DictEntry}(h:OkE es (k :: ks))(hz:es.length≤sizeLine)(ik:IK e k)(q:Q () (B.st (a++dO (es ++ [e]) :: b) t)):wpAny (model prog w) A (dictPut (B.h.objs.size+a.length) e.hash e.key e.val) Q E (B.st (a++dO es :: b) t):=by
 obtain ⟨X,Z,v⟩:=e
 obtain ⟨tk,rfl,rfl⟩:=ik
 unfold dictPut
 refine wB (wpAny_dictFind_int (zds rfl) rfl h.keys ?_)
 rw [h.none]
 refine wpAny_updateDictKeys (zds rfl) rfl ?_ hz (Nat.le_of_eq (Array.size_push _))
 show Q () ⟨(ext B.h (a++dO es :: b)).update (B.h.objs.size+a.length) _,_,_,_,_⟩
 rw [zni,zkt]
 exact q
theorem zj1(h:OkE es (k :: ks))(hz:es.length≤sizeLine)(q:Q () (B.st (a++dO (es ++ [⟨hashInt k, .int k tk,v⟩]) :: b) (t+1))):wpAny (model prog w) A (dictSet (B.h.objs.size+a.length) (.int k tk) v) Q E (B.st (a++dO es :: b) t):=by
 unfold dictSet
 refine wH (wB (wpAny_pyHash_int ?_))
 unfold dictSetHashed
 refine wH (wB (wpAny_dictFind_int (s:=B.st (a++dO es :: b) (t+1)) (zds rfl) rfl h.keys ?_))
 rw [h.none]
 refine wB (wpAny_rule (wpAny_updateDictKeys (zds rfl) rfl ?_ hz (Nat.le_of_eq (Array.size_push _))))
 show Q () ⟨(ext B.h (a++dO es :: b)).update (B.h.objs.size+a.length) _,_,_,_,_⟩
 rw [zni,zkt]
 exact q
noncomputable def zfi{ι:Type}(ent:ι→Nat→DictEntry)(c:Nat)(t:Nat)(xs:List ι):List DictEntry:=List.rec (motive:=fun X=>Nat→List DictEntry) (fun X=> []) (fun x X ih t=>ent x t :: ih (t+c)) xs t
theorem zd8{ι:Type}(g:ι→DictEntry)(c:Nat):∀(xs:List ι) (t:Nat),zfi (fun x X=>g x) c t xs=xs.map g
 | [],_=>rfl
 | x :: xs,t=>congrArg (g x :: ·) (zd8 g c xs (t+c))
theorem zm1{ι:Type}{f:ι→PUnit→Sem (ForInStep PUnit)}(key:ι→Int)(ent:ι→Nat→DictEntry)(c:Nat){r:List Int}{Q:PUnit→Shared→Prop}:∀(xs:List ι) (es:List DictEntry) (t:Nat),
  (∀x,x∈xs→∀t,IK (ent x t) (key x))→(∀x,x∈xs→∀es t ks (Q:ForInStep PUnit→Shared→Prop),OkE es (key x :: ks)→es.length≤sizeLine→Q (.yield ⟨⟩) (B.st (a++dO (es ++ [ent x t]) :: l) (t+c))→wpAny (model prog w) A (f x ⟨⟩) Q E (B.st (a++dO es :: l) t))→
  OkE es (xs.map key++r)→es.length+xs.length≤sizeLine→Q ⟨⟩ (B.st (a++dO (es++zfi ent c t xs) :: l) (t+c*xs.length))→wpAny (model prog w) A (forIn xs PUnit.unit f) Q E (B.st (a++dO es :: l) t)
 | [],es,t,_,_,_,_,q=>wP (List.append_nil es▸q)
 | x :: xs,es,t,ik,hf,h,hz,q=>by
  have e1:es++zfi ent c t (x :: xs)=es ++ [ent x t]++zfi ent c (t+c) xs:=(List.append_assoc es [ent x t] (zfi ent c (t+c) xs)).symm
  have e2:t+c*(x :: xs).length=t+c+c*xs.length:=(congrArg (t + ·) (Nat.add_comm (c*xs.length) c)).trans (Nat.add_assoc ..).symm
  rw [e1,e2] at q
  exact zbP (wB (hf x mS es t _ _ h (lT (Nat.le_add_right ..) hz) (zm1 key ent c xs (es ++ [ent x t]) (t+c) (fun y m=>ik y (mM _ m)) (fun y m=>hf y (mM _ m)) (h.snoc (ik x mS t)) (by rw [List.length_append];exact lT (Nat.le_of_eq (Nat.add_right_comm ..)) hz) q)))
noncomputable def zcY(kv:Int×Str):Sem Value:=mkInt kv.1
noncomputable def zcE(pos:Pos)(kv:Int×Str):Sem Value:=do let x←mkText kv.2;standAt pos;pure x
def zdk(pos:Pos)(kvs:List (Int×Str)):List (Sem Value×Sem Value):=kvs.map fun kv=>(zcY kv,zcE pos kv)
noncomputable def ztz(kv:Int×Str)(t:Nat):DictEntry:=⟨hashInt kv.1, .int kv.1 t, .str kv.2 (t+1)⟩
noncomputable def zqq(kvs:List (Int×Str)):Nat→List (Int×Nat×Value):=List.rec (motive:=fun X=>Nat→List (Int×Nat×Value)) (fun X=> []) (fun kv X ih t=>(kv.1,t, .str kv.2 (t+1)) :: ih (t+2)) kvs
noncomputable def zty(y:Int×Nat×Value):DictEntry:=⟨hashInt y.1, .int y.1 y.2.1,y.2.2⟩
noncomputable def vv(y:Int×Nat×Value):Value×Value:=(.int y.1 y.2.1,y.2.2)
def zfq(t:Nat)(kvs:List (Int×Str)):List DictEntry:=if kvs.length≤15 then (zqq kvs t).map zty else zfi ztz 3 t kvs
theorem zbD:∀(kvs:List (Int×Str)) (t:Nat),(zqq kvs t).map (·.1)=kvs.map (·.1)
 | [],_=>rfl
 | kv :: r,t=>congrArg (kv.1 :: ·) (zbD r (t+2))
theorem zgw(kvs:List (Int×Str))(t:Nat):(zqq kvs t).length=kvs.length:=(List.length_map ..).symm.trans ((congrArg List.length (zbD kvs t)).trans (List.length_map ..))
theorem zgv{kv:Int×Str}{Q:Value→Shared→Prop}(q:Q (.int kv.1 t) (B.st l (t+1))):wpAny (model prog w) A (zcY kv) Q E (B.st l t):=fun X X X=>q
theorem zgu{pos:Pos}{kv:Int×Str}{Q:Value→Shared→Prop}(q:Q (.str kv.2 t) (B.st l (t+1))):wpAny (model prog w) A (zcE pos kv) Q E (B.st l t):=fun X X X=>q
theorem znm(pos:Pos):∀(kvs:List (Int×Str)) (t:Nat) (Q:List (Value×Value)→Shared→Prop),Q ((zqq kvs t).map vv) (B.st l (t+2*kvs.length))→wpAny (model prog w) A (evalPairs (zdk pos kvs)) Q E (B.st l t)
 | [],_,_,q=>wP q
 | kv :: r,t,Q,q=>wB (zgv (wB (wH (zgu (wB (wH (znm pos r (t+1+1) _ (wP (((congrArg (t + ·) (Nat.add_comm (2*r.length) 2)).trans (Nat.add_assoc ..).symm:t+2*(kv :: r).length=t+1+1+2*r.length)▸q)))))))))
theorem zgg{ι α β:Type}{g:ι→α}{xs:List ι}{b:β}{f:α→β→Sem (ForInStep β)}{s:Shared}{Q:β→Shared→Prop}(h:wpAny (model prog w) A (forIn xs b fun x=>f (g x)) Q E s):wpAny (model prog w) A (forIn (xs.map g) b f) Q E s:=by rw [List.forIn_map];exact h
theorem zng(pos:Pos){kvs:List (Int×Str)}{Q:Addr→Shared→Prop}(h:OkE [] (kvs.map (·.1)))(hz:kvs.length≤sizeLine)(q:Q (B.h.objs.size+l.length) (B.st (l ++ [dO (zfq t kvs)]) (t+3*kvs.length))):
  wpAny (model prog w) A (subDict (zdk pos kvs)) Q E (B.st l t):=by
 have h:OkE [] (kvs.map (·.1) ++ []):=(List.append_nil _).symm▸h
 have hz:([]:List DictEntry).length+kvs.length≤sizeLine:=(Nat.zero_add _).symm▸hz
 unfold subDict
 refine wB (wpAny_alloc ?_)
 show wpAny _ _ _ Q E ⟨(ext B.h l).push (dO []),_,_,_,_⟩
 rw [zon,show (B.st l t).heap.objs.size=_ from zom]
 refine wB (wH ?_)
 rw [show (zdk pos kvs).length=kvs.length from List.length_map ..]
 unfold zfq at q
 by_cases hn:kvs.length≤15
 ·rw [if_pos hn] at q⊢
  refine wB (znm (B:=B) pos kvs t _ (wH (wB (zgg (zm1 (B:=B) (·.1) (fun y X=>zty y) 1 (r:= []) (zqq kvs t) [] (t+2*kvs.length) ?_ ?_ ?_ ?_ ?_)))))
  ·exact fun y X X=>⟨_,rfl,rfl⟩
  ·exact fun y X es t ks Q h hz q=>wB (zj1 h hz (wP q))
  ·rw [zbD];exact h
  ·rw [zgw];exact hz
  ·rw [zd8,zgw,Nat.add_assoc,←Nat.add_mul];exact wP (wP q)
 ·rw [if_neg hn] at q⊢
  refine wB (wpAny_rule (wB (zgg (zm1 (B:=B) (·.1) ztz 3 (r:= []) kvs [] t (fun X X X=>⟨_,rfl,rfl⟩) (fun kv X es t ks Q h hz q=>?_) h hz (wP (wP q))))))
  exact wB (zgv (wB (wH (zgu (wB (wH (zj1 h hz (wP q))))))))
theorem zt8{α:Type}{M:Model}{x y:α}{s:Shared}{Q:α→Shared→Prop}(e:x=y)(q:Q y s):wpAny M A (pure x) Q E s:=by subst e;exact wP q
theorem Rs.getD{α β:Type}{R:α→β→Prop}{xs:List α}{ys:List β}{d:α}{e:β}(h:Rs R xs ys):∀i,i<xs.length→R (xs.getD i d) (ys.getD i e):=by
 induction h with
 | nil=>exact fun X q=>absurd q (zN _)
 | cons a X ih=>exact fun i q=>by induction i using Nat.casesOn with
  | zero=>exact a
  | succ i=>exact ih i (Nat.lt_of_succ_lt_succ q)
theorem zc0{α:Type}(d:α):∀l:List α,(List.range l.length).map (l.getD · d)=l
 | []=>rfl
 | x :: l=>by rw [List.length_cons,List.range_succ_eq_map,List.map_cons,List.map_map];exact congrArg (x :: ·) (zc0 d l)
theorem zlW{ex:List Obj}{es':List DictEntry}{K r:List Int}(hne:es≠[])(h:OkE es (K++r))(h':Rs IK es' K)(hz:es.length+es'.length≤sizeLine)(hm:1<B.h.objs.size)(q:Q () (B.st (dO (es++es') :: (ex ++ [dO es'])) t)):
  wpAny (model prog w) A (mergeMapping (B.h.objs.size+0) (.ref (B.h.objs.size+(ex.length+1))) false) Q E (B.st (dO es :: (ex ++ [dO es'])) t):=by
 have hs:∀es,(B.st (dO es :: (ex ++ [dO es'])) t).heap.get? (B.h.objs.size+(ex.length+1))=some (dO es'):=fun es=>zds (a:=dO es :: ex) (b:= []) rfl
 have hT:(B.st (dO es :: (ex ++ [dO es'])) t).TypeIs (.ref (B.h.objs.size+(ex.length+1))) "dict" :=⟨_,hs es,rfl⟩
 unfold mergeMapping
 refine wB (wpAny_isInstance hT isSubtype_dict_dict (ifT rfl (wB (wpAny_specialOf hT F.slot_dict_iter.lookup (wB (zt8 (beq_self_eq_true _) ?_))))))
 refine ifF (beq_false_of_ne (Nat.ne_of_gt (lL hm (Nat.le_add_right ..)))) (wB (wpAny_dictEntries (zds (a:= []) rfl) rfl (ifF ?_ (wB (wpAny_dictEntries (hs es) rfl (wB (wpAny_dictEpoch (hs es) rfl (wB ?_))))))))
 ·induction es using cL with
  | nil=>exact absurd rfl hne
  | cons=>rfl
 have e1:zfi (fun i (_:Nat)=>es'.getD i ⟨0, .none, .none⟩) 0 t (List.range es'.length)=es':=(zd8 ..).trans (zc0 _ es')
 refine zm1 (B:=B) (a:= []) (fun i=>K.getD i 0) (fun i X=>es'.getD i ⟨0, .none, .none⟩) 0 (r:=r) (List.range es'.length) es t (fun i m t=>?_) (fun i m es t ks Q h hz q=>?_) ?_ ?_ ?_
 ·exact h'.getD i (List.mem_range.mp m)
 ·refine wB (wpAny_dictEntries (hs es) rfl ?_)
  rw [show es'.toArray[i]? = some (es'.getD i ⟨0, .none, .none⟩) by rw [List.getElem?_toArray,List.getD_eq_getElem?_getD,List.getElem?_eq_getElem (List.mem_range.mp m)];rfl]
  exact wB (wH (ifN (Bool.noConfusion) (zmC (a:= []) h hz (h'.getD i (List.mem_range.mp m)) (wB (wpAny_dictEpoch (hs _) rfl (ifF (bne_self_eq_false _) (wP q)))))))
 ·rw [h'.len,zc0];exact h
 ·rw [List.length_range];exact hz
 ·rw [e1,Nat.zero_mul];exact wP q
theorem zcC(kvs:List (Int×Str))(t:Nat):Rs IK (zfq t kvs) (kvs.map (·.1)):=by
 have e1:∀(l:List (Int×Nat×Value)),Rs IK (l.map zty) (l.map (·.1)):=fun l=>by
  induction l with
  | nil=>exact .nil
  | cons X Z ih=>exact .cons ⟨_,rfl,rfl⟩ ih
 have e2:∀(l:List (Int×Str)) t,Rs IK (zfi ztz 3 t l) (l.map (·.1)):=fun l=>by
  induction l with
  | nil=>exact fun X=> .nil
  | cons X Z ih=>exact fun t=> .cons ⟨_,rfl,rfl⟩ (ih (t+3))
 unfold zfq
 split
 ·exact zbD kvs t▸e1 _
 ·exact e2 kvs t
theorem zdd(kvs:List (Int×Str))(t:Nat):(zfq t kvs).length=kvs.length:=(zcC kvs t).len.trans (List.length_map ..)
noncomputable abbrev DM:=Option (List DictEntry×List Obj)
noncomputable def esD(m:DM):List DictEntry:=Option.casesOn (motive:=fun X=>List DictEntry) m [] (·.1)
noncomputable def zg4(m:DM):List Obj:=Option.casesOn (motive:=fun X=>List Obj) m [] fun x=>dO x.1 :: x.2
noncomputable def zlZ(B:Bs)(m:DM):Option Addr:=m.map fun X=>B.h.objs.size+0
def zb5(m:DM)(t:Nat)(run:List (Int×Str)):DM:=List.casesOn (motive:=fun X=>DM) run m fun X X=>some (Option.casesOn (motive:=fun X=>List DictEntry×List Obj) m (zfq t run,[]) fun x=>(x.1++zfq t run,x.2 ++ [dO (zfq t run)]))
def zin(kvs:List (Int×Str)):DM→Nat→List (Int×Str)→DM×Nat×List (Int×Str):=List.rec (motive:=fun X=>DM→Nat→List (Int×Str)→DM×Nat×List (Int×Str)) (fun m t p=>(m,t,p)) (fun kv X ih m t p=>cond ((p ++ [kv]).length==17) (ih (zb5 m t (p ++ [kv])) (t+3*(p ++ [kv]).length) []) (ih m t (p ++ [kv]))) kvs
theorem zdM{m:DM}{run:List (Int×Str)}:(esD (zb5 m t run)).length=(esD m).length+run.length:=by
 induction run using cL with
 | nil=>rfl
 | cons kv r=>induction m with
  | none=>exact (zdd (kv :: r) t).trans (Nat.zero_add _).symm
  | some x=>exact List.length_append.trans (congrArg (x.1.length + ·) (zdd (kv :: r) t))
def OkM(m:DM)(ks:List Int):Prop:=OkE (esD m) ks∧(m.isSome=true→0<(esD m).length)
theorem zkh{m:DM}{run:List (Int×Str)}{r:List Int}(h:OkM m (run.map (·.1)++r)):OkM (zb5 m t run) r:=by
 induction run using cL with
 | nil=>exact h
 | cons kv ru=>
  refine ⟨?_,fun X=>zdM (t:=t) (m:=m) (run:=kv :: ru)▸Nat.succ_pos _⟩
  induction m with
  | none=>exact h.1.elim fun K q=>by cases q.1;exact ⟨_,zcC (kv :: ru) t,q.2⟩
  | some x=>exact h.1.elim fun K q=>⟨_,q.1.app (zcC (kv :: ru) t),(List.append_assoc ..).symm▸q.2⟩
def zld(B:Bs)(M:Model)(A:Around)(E:Value→Shared→Prop)(pos:Pos)(fl:List (Sem Value×Sem Value)→Option Addr→Sem (Option Addr)):Prop:=∀(m:DM) (t:Nat) (run:List (Int×Str)) (r:List Int) (Q:Option Addr→Shared→Prop),OkM m (run.map (·.1)++r)→(esD m).length+run.length≤sizeLine→
 Q (zlZ B (zb5 m t run)) (B.st (zg4 (zb5 m t run)) (t+3*run.length))→wpAny M A (fl (zdk pos run) (zlZ B m)) Q E (B.st (zg4 m) t)
theorem zhK{pos:Pos}{p:List (Int×Str)}{kv:Int×Str}:zdk pos p ++ [(zcY kv,zcE pos kv)]=zdk pos (p ++ [kv]):=by unfold zdk;rw [List.map_append];rfl
theorem zda{pos:Pos}{fl:List (Sem Value×Sem Value)→Option Addr→Sem (Option Addr)}(hfl:zld B (model prog w) A E pos fl){f:Int×Str→Option Addr×List (Sem Value×Sem Value)→Sem (ForInStep (Option Addr×List (Sem Value×Sem Value)))}
  (hf:∀kv m run,f kv (m,run)=if ((run ++ [(zcY kv,zcE pos kv)]).length==17)=true then fl (run ++ [(zcY kv,zcE pos kv)]) m>>=fun m=>pure (.yield (m, [])) else pure (.yield (m,run ++ [(zcY kv,zcE pos kv)]))) {Q:Option Addr×List (Sem Value×Sem Value)→Shared→Prop}
  {F:DM×Nat×List (Int×Str)→Prop} (hF:∀x,F x→OkM x.1 (x.2.2.map (·.1) ++ [])→(esD x.1).length+x.2.2.length≤sizeLine→Q (zlZ B x.1,zdk pos x.2.2) (B.st (zg4 x.1) x.2.1)):
  ∀(kvs:List (Int×Str)) (m:DM) (t:Nat) (p:List (Int×Str)),OkM m (p.map (·.1)++kvs.map (·.1))→(esD m).length+p.length+kvs.length≤sizeLine→F (zin kvs m t p)→wpAny (model prog w) A (forIn kvs (zlZ B m,zdk pos p) f) Q E (B.st (zg4 m) t)
 | [],m,t,p,h,hz,q=>wP (hF _ q h hz)
 | kv :: r,m,t,p,h,hz,q=>by
  have e1:p.map (·.1)++(kv :: r).map (·.1)=(p ++ [kv]).map (·.1)++r.map (·.1):=by rw [List.map_append,List.append_assoc];rfl
  have e3:(esD m).length+p.length+(kv :: r).length=(esD m).length+(p ++ [kv]).length+r.length:=by rw [List.length_append,←Nat.add_assoc,Nat.add_assoc _ [kv].length,Nat.add_comm [kv].length];rfl
  rw [e1] at h
  rw [e3] at hz
  have q:F (cond ((p ++ [kv]).length==17) (zin r (zb5 m t (p ++ [kv])) (t+3*(p ++ [kv]).length) []) (zin r m t (p ++ [kv]))):=q
  refine zbP ?_
  rw [hf,zhK,show (zdk pos (p ++ [kv])).length=(p ++ [kv]).length from List.length_map ..]
  revert q
  induction (p ++ [kv]).length==17 with
  | true=>exact fun q=>wB (ifT rfl (wB (hfl _ _ _ _ _ h (lT (Nat.le_add_right ..) hz) (wP (zda hfl hf hF r _ _ [] (zkh h) (lT (Nat.le_of_eq (congrArg (· + r.length) zdM)) hz) q)))))
  | false=>exact fun q=>wB (ifF rfl (wP (zda hfl hf hF r m t _ h hz q)))
theorem zim(pos:Pos){kvs:List (Int×Str)}(ok:OkE [] (kvs.map (·.1)))(hz:kvs.length≤sizeLine)(hm:1<B.h.objs.size){Q:Value→Shared→Prop}{D:DM×Nat×List (Int×Str)}(eD:zin kvs none t []=D)
  (hs:(zb5 D.1 D.2.1 D.2.2).isSome=true) (q:Q (.ref B.h.objs.size) (B.st (zg4 (zb5 D.1 D.2.1 D.2.2)) (D.2.1+3*D.2.2.length))):wpAny (model prog w) A (dictDisplay (kvs.map fun kv=>(some (zcY kv),zcE pos kv))) Q E (B.st [] t):=by
 unfold dictDisplay
 extract_lets fl
 have hfl:zld B (model prog w) A E pos fl:=fun m t run r Q h hz q=>by
  induction run using cL with
  | nil=>exact wP q
  | cons kv ru=>induction m with
   | none=>exact wB (zng pos h.1.sub (lT (Nat.le_add_left ..) hz) (wP q))
   | some x=>
    refine wB (wH (zng pos h.1.sub (lT (Nat.le_add_left ..) hz) (wB (wpAny_onRaise (wpAny_mono (wH (zlW (fun e=>absurd (h.2 rfl) (e▸Nat.lt_irrefl 0:¬0<x.1.length)) h.1 (zcC (kv :: ru) t) (zdd (kv :: ru) t▸hz) hm (E:=fun X X=>False) (Q:=fun X s'=>wpAny _ _ (pure (some (B.h.objs.size+0))) Q E s') (wP q))) (fun X X z=>z) fun X X z=>z.elim)))))
 refine wB (zgg (zda hfl (fun X X X=>rfl) (F:=(· = D)) (fun x e h hz=>?_) kvs none t [] ⟨ok,fun q=>nb q⟩ ((Nat.zero_add _).symm▸hz) eD))
 obtain rfl:=e
 refine wB (hfl x.1 x.2.1 x.2.2 [] _ h hz ?_)
 revert hs q
 induction zb5 x.1 x.2.1 x.2.2 with
 | none=>exact fun hs=>nb hs
 | some y=>exact fun X q=>wP q
end
end Mn
end
section
open PySem PySem.W
namespace Mn
open PySem.Sem (wp)
theorem cnd{α:Type}{b:Bool}{x:Option α}{z:α}(h:cond b x none=some z):b=true∧x=some z:=by
 induction b with
 | false=>exact no h
 | true=>exact ⟨rfl,h⟩
noncomputable abbrev Ev(α:Type):=Except Value α×Pos×SharedT
noncomputable def evC(ih:Ctx→Pos→SharedT→Option (Ev Fin)):Nat→Ctx→Pos→SharedT→Option (Result×SharedT)
 | 0,_,_,_=>none
 | m+1,Γ,p,s=>(ih Γ p s).bind fun x=>Except.casesOn (motive:=fun X=>Option (Result×SharedT)) x.1 (fun e=>some ((.error e:Result),x.2.2)) fun f=>PySem.Fin.casesOn (motive:=fun X=>Option (Result×SharedT)) f (fun f=>some ((.ok f:Result),x.2.2)) fun c=>cond c.quiet (evC ih m (Γ.goto c) x.2.1 x.2.2) none
def evN(den:Code→Sem Fin)(prog:Program)(w:World)(ok:Addr→Bool):Nat→(α:Type)→Ctx→Sem α→Pos→SharedT→Option (Ev α)
 | 0,_,_,_,_,_=>none
 | n+1,α,Γ,t,p,s=>match t with
  | .pure a=>some (.ok a,p,s)
  | .raise e=>some (.error e,p,s)
  | .rule _ k=>evN den prog w ok n α Γ (k ()) p s
  | .at p' k=>evN den prog w ok n α Γ (k ()) p' s
  | .load a _ k=>cond (Nat.blt a s.n) ((s.tree.get a).bind fun o=>(alive o).bind fun o=>evN den prog w ok n α Γ (k o) p s) none
  | .update a _ f k=>cond (Nat.blt a s.n&&ok a) ((s.tree.get a).bind fun o=>(alive o).bind fun X=>evN den prog w ok n α Γ (k ()) p {s with tree:=s.tree.set a f}) none
  | .alloc o k=>cond ((s.tree.ins s.n o).get s.n).isSome (evN den prog w ok n α Γ (k s.n) p {s with tree:=s.tree.ins s.n o,n:=s.n+1}) none
  | .loadIfAlive a k=>cond (Nat.blt a s.n) ((s.tree.get a).bind fun o=>evN den prog w ok n α Γ (k (alive o)) p s) (evN den prog w ok n α Γ (k none) p s)
  | .point _ k=>evN den prog w ok n α Γ (k ()) p s
  | .fresh k=>evN den prog w ok n α Γ (k s.toks) p {s with toks:=s.toks+1}
  | .ask k=>evN den prog w ok n α Γ (k ⟨prog,w.params⟩) p s
  | .call c h _ _ k=>(evC (fun Γ p s=>evN den prog w ok n Fin Γ (den Γ.code) p s) n (Γ.enter c h p) p s).bind fun x=>evN den prog w ok n α Γ (k x.1) p x.2
  | .handled own k=>evN den prog w ok n α Γ (k (if own then Γ.own else Γ.handled)) p s
  | .stack k=>evN den prog w ok n α Γ (k ((Γ.code,p) :: Γ.below)) p s
  | .thread k=>evN den prog w ok n α Γ (k 0) p s
  | _=>none
structure Kept(ok:Addr→Bool)(s s':SharedT):Prop where
 n:s.n≤s'.n
 obj:∀b o,ok b=false→s.abs.heap.get? b=some o→s'.abs.heap.get? b=some o
 life:s'.life=s.life
 gens:s'.gens=s.gens
 os:s'.os=s.os
section
variable {den:Code→Sem Fin} {prog:Program} {w:World} {ok:Addr→Bool} {α β:Type} {Γ:Ctx} {t:Sem α} {p p':Pos} {s s' s₁ S:SharedT} {r:Except Value α} {o:Obj} {a:Addr} {f:Obj→Obj}
theorem Kept.refl:Kept ok s s:=⟨rL _,fun X X X e=>e,rfl,rfl,rfl⟩
theorem Kept.trans(a:Kept ok s s₁)(b:Kept ok s₁ s'):Kept ok s s':=⟨lT a.n b.n,fun x o h e=>b.obj x o h (a.obj x o h e),b.life.trans a.life,b.gens.trans a.gens,b.os.trans a.os⟩
theorem zl2(g:s.tree.get a=some o):SharedT.abs {s with tree:=s.tree.set a f} = {s.abs with heap:=s.abs.heap.update a f}:=congrArg (fun h=>Shared.mk h s.gens s.drawn s.toks s.os) (absHeap_set g)
theorem zl3(e:((s.tree.ins s.n o).get s.n).isSome=true):SharedT.abs {s with tree:=s.tree.ins s.n o,n:=s.n+1} = {s.abs with heap:=s.abs.heap.push o}:=congrArg (fun h=>Shared.mk h s.gens s.drawn s.toks s.os) (absHeap_ins e)
theorem Kept.set(g:s.tree.get a=some o)(h:ok a=true):Kept ok s {s with tree:=s.tree.set a f}:=⟨rL _,fun b x hb hx=>(congrArg (fun z:Shared=>z.heap.get? b) (zl2 g)).trans ((Heap.get?_update_other _ _ fun e=>by subst e;exact nb (hb.symm.trans h)).trans hx),rfl,rfl,rfl⟩
theorem Kept.ins(e:((s.tree.ins s.n o).get s.n).isSome=true):Kept ok s {s with tree:=s.tree.ins s.n o,n:=s.n+1}:=⟨Nat.le_succ _,fun b x X hx=>(congrArg (fun z:Shared=>z.heap.get? b) (zl3 e)).trans (pS _ hx),rfl,rfl,rfl⟩
def zrs(Q:α→Pos→Shared→Prop)(E:Value→Pos→Shared→Prop)(x:Ev α):Prop:=Except.casesOn (motive:=fun X=>Prop) x.1 (fun e=>E e x.2.1 x.2.2.abs) fun a=>Q a x.2.1 x.2.2.abs
def zn2(den:Code→Sem Fin)(prog:Program)(w:World)(ok:Addr→Bool)(Γ:Ctx)(t:Sem α)(p:Pos)(s:SharedT)(x:Ev α):Prop:=Kept ok s x.2.2∧∀Q E,zrs Q E x→wp ⟨den,prog,w⟩ Γ t Q E p s.abs
theorem znG{ih:Ctx→Pos→SharedT→Option (Ev Fin)}(H:∀Γ p s x,ih Γ p s=some x→zn2 den prog w ok Γ (den Γ.code) p s x):∀(m:Nat) (Γ:Ctx) (p:Pos) (s:SharedT) (y:Result×SharedT),evC ih m Γ p s=some y→Kept ok s y.2∧∀R:Result→Shared→Prop,R y.1 y.2.abs→wpCode ⟨den,prog,w⟩ Γ R p s.abs
 | 0,_,_,_,_,h=>no h
 | m+1,Γ,p,s,y,h=>(bE h).elim fun x q=>by
  obtain ⟨K,Z⟩:=H Γ p s x q.1
  obtain ⟨f,p1,s1⟩:=x
  have q:=q.2
  induction f with
  | error e=>obtain rfl:=sI q;exact ⟨K,fun R hR=>(wpCode_iff_wp ..).mpr (Z _ _ hR)⟩
  | ok f=>
   induction f with
   | done f=>obtain rfl:=sI q;exact ⟨K,fun R hR=>(wpCode_iff_wp ..).mpr (Z _ _ hR)⟩
   | again c=>
    have z:=znG H m (Γ.goto c) p1 s1 y (cnd q).2
    exact ⟨K.trans z.1,fun R hR=>(wpCode_iff_wp ..).mpr (Z _ _ ⟨(cnd q).1,z.2 R hR⟩)⟩
theorem zaG:∀(n:Nat) (α:Type) (Γ:Ctx) (t:Sem α) (p:Pos) (s:SharedT) (x:Ev α),evN den prog w ok n α Γ t p s=some x→zn2 den prog w ok Γ t p s x
 | 0,_,_,_,_,_,_,h=>no h
 | n+1,α,Γ,t,p,s,x,h=>by
  induction t using Sem.casesOn with
  | pure a=>obtain rfl:=sI h;exact ⟨.refl,fun X X=>id⟩
  | raise e=>obtain rfl:=sI h;exact ⟨.refl,fun X X=>id⟩
  | rule X k=>exact zaG n α Γ (k ()) p s x h
  | «at» q k=>exact zaG n α Γ (k ()) q s x h
  | point X k=>exact zaG n α Γ (k ()) p s x h
  | ask k=>exact zaG n α Γ (k _) p s x h
  | handled own k=>exact zaG n α Γ (k _) p s x h
  | stack k=>exact zaG n α Γ (k _) p s x h
  | thread k=>exact zaG n α Γ (k 0) p s x h
  | fresh k=>exact (zaG n α Γ (k _) p _ x h).imp (fun K=>⟨K.n,K.obj,K.life,K.gens,K.os⟩) fun z=>z
  | load a q k=>exact (bE (cnd h).2).elim fun o g=>(bE g.2).elim fun o' l=>(zaG n α Γ (k o') p s x l.2).imp id fun z Q E hr=>⟨o',(abs_get (jL (cnd h).1) g.1).trans l.1,z Q E hr⟩
  | update a q f k=>
   refine (bE (cnd h).2).elim fun o g=>(bE g.2).elim fun o' l=>(zaG n α Γ (k ()) p _ x l.2).imp (Kept.set g.1 (aI (cnd h).1).2).trans fun z Q E hr=>⟨Option.isSome_iff_exists.mpr ⟨o',(abs_get (jL (aI (cnd h).1).1) g.1).trans l.1⟩,?_⟩
   have e:=z Q E hr
   rw [zl2 g.1] at e
   exact e
  | alloc o k=>
   refine (zaG n α Γ (k s.n) p _ x (cnd h).2).imp (Kept.ins (cnd h).1).trans fun z Q E hr=>?_
   have e:=z Q E hr
   rw [zl3 (cnd h).1] at e
   rw [Sem.wp_alloc,show s.abs.heap.objs.size=s.n from absHeap_size ..]
   exact e
  | loadIfAlive a k=>
   have h:cond (Nat.blt a s.n) ((s.tree.get a).bind fun o=>evN den prog w ok n α Γ (k (alive o)) p s) (evN den prog w ok n α Γ (k none) p s)=some x:=h
   have go:∀{o:Option Obj},s.abs.heap.get? a=o→zn2 den prog w ok Γ (k o) p s x→zn2 den prog w ok Γ (.loadIfAlive a k) p s x:=fun e z=>by subst e;exact z
   revert h
   induction e:Nat.blt a s.n with
   | false=>exact fun h=>go (abs_get_none fun q=>nb (e.symm.trans (Nat.ble_eq_true_of_le q))) (zaG n α Γ (k none) p s x h)
   | true=>exact fun h=>(bE h).elim fun o g=>go (abs_get (jL e) g.1) (zaG n α Γ (k (alive o)) p s x g.2)
  | call c hd g l k=>exact (bE h).elim fun y q=>(zaG n α Γ (k y.1) p y.2 x q.2).elim fun K z=>(znG (fun Γ p s x=>zaG n PySem.Fin Γ (den Γ.code) p s x) n _ _ _ _ q.1).imp (Kept.trans · K) fun Z Q E hr=>Z _ (z Q E hr)
  | _=>exact no h
end
section
variable {den:Code→Sem PySem.Fin} {prog:Program} {w:World} {ok:Addr→Bool} {N:Nat} {α β γ:Type} {Γ Γ':Ctx} {t:Sem α} {f:α→Sem β} {p:Pos} {s S:SharedT} {Φ:α→Pos→SharedT→Prop} {Ψ:β→Pos→SharedT→Prop} {y:γ}
def evK(den:Code→Sem PySem.Fin)(prog:Program)(w:World)(ok:Addr→Bool)(N:Nat)(Γ:Ctx)(t:Sem α)(p:Pos)(s:SharedT)(k:α→Pos→SharedT→Option γ):Option γ:=(evN den prog w ok N α Γ t p s).bind fun x=>Except.casesOn (motive:=fun X=>Option γ) x.1 (fun X=>none) fun a=>k a x.2.1 x.2.2
def W(M:Model)(ok:Addr→Bool)(Γ:Ctx)(t:Sem α)(p:Pos)(s:SharedT)(Φ:α→Pos→SharedT→Prop):Prop:=wp M Γ t (fun a p' σ=>∃S,σ=S.abs∧Kept ok s S∧Φ a p' S) (fun X X X=>False) p s.abs
theorem W.bind{M:Model}(h:W M ok Γ t p s Φ)(k:∀a p' S,Φ a p' S→W M ok Γ (f a) p' S Ψ):W M ok Γ (t>>=f) p s Ψ:=by
 unfold W
 rw [Sem.wp_bind']
 refine Sem.wp_mono _ _ _ (fun a p' X q=>q.elim fun S q=>?_) (fun X X X z=>z) _ _ h
 obtain ⟨rfl,K,q⟩:=q
 exact Sem.wp_mono _ _ _ (fun X X X z=>z.imp fun X z=>z.imp id (.imp K.trans id)) (fun X X X z=>z) _ _ (k a p' S q)
theorem W.use{M:Model}{Q:α→Pos→Shared→Prop}(h:W M ok Γ t p s Φ)(q:∀a p' S,Kept ok s S→Φ a p' S→Q a p' S.abs):wp M Γ t Q (fun X X X=>False) p s.abs:=Sem.wp_mono _ _ _ (fun a p' X z=>z.elim fun S z=>z.1▸q a p' S z.2.1 z.2.2) (fun X X X z=>z) _ _ h
theorem W.pure{M:Model}{a:α}(h:Φ a p s):W M ok Γ (pure a) p s Φ:=(⟨s,rfl, .refl,h⟩:∃S,s.abs=S.abs∧Kept ok s S∧Φ a p S)
theorem W.at{M:Model}{q:Pos}{t:Sem α}(h:W M ok Γ t q s Φ):W M ok Γ (standAt q>>=fun X=>t) p s Φ:=h
theorem W.run{M:Model}{c:Code}{Φ:Flow→Pos→SharedT→Prop}(h:W M ok (Γ.enter c none p) (M.den c) p s fun fin X S=>∃f,fin = .done f∧Φ f p S):W M ok Γ (run c) p s Φ:=by
 unfold W
 rw [Sem.wp_run,wpCode_iff_wp]
 exact Sem.wp_mono _ _ _ (fun a p' X q=>q.elim fun S q=>q.2.2.elim fun f z=>by rw [z.1];exact ⟨S,q.1,q.2.1,z.2⟩) (fun X X X z=>z) _ _ h
theorem W.raise{M:Model}{d:Value→Sem Unit}(h:W M ok Γ t p s Φ):W M ok Γ (t.onRaise d) p s Φ:=by
 unfold W
 rw [Sem.wp_onRaise]
 exact Sem.wp_mono _ _ _ (fun X X X z=>z) (fun X X X z=>z.elim) _ _ h
theorem W.ev{ι:Type}(i0:ι){k:ι→α→Pos→SharedT→Option γ}(h:∀i,evK den prog w ok N Γ t p s (k i)=some y)(q:∀a p' S,(∀i,k i a p' S=some y)→Φ a p' S):W ⟨den,prog,w⟩ ok Γ t p s Φ:=(bE (h i0)).elim fun x e=>by
 obtain ⟨r,p',S⟩:=x
 have Z:=zaG _ _ _ _ _ _ _ e.1
 have h:∀i,(some (r,p',S)).bind (fun x:Ev α=>Except.casesOn (motive:=fun X=>Option γ) x.1 (fun X=>none) fun a=>k i a x.2.1 x.2.2)=some y:=fun i=>(congrArg (Option.bind · _) e.1).symm.trans (h i)
 induction r with
 | error=>exact no (h i0)
 | ok a=>exact Z.2 _ _ ⟨S,rfl,Z.1,q _ _ _ h⟩
theorem W.step{ι:Type}(i0:ι){k:ι→α→Pos→SharedT→Option γ}(h:∀i,evK den prog w ok N Γ t p s (k i)=some y)(q:∀a p' S,(∀i,k i a p' S=some y)→W ⟨den,prog,w⟩ ok Γ (f a) p' S Ψ):W ⟨den,prog,w⟩ ok Γ (t>>=f) p s Ψ:=W.bind (W.ev i0 h q) fun X X X z=>z
end
noncomputable def zhb:BT→Nat→List Obj→BT
 | t,_, []=>t
 | t,n,o :: l=>zhb (t.ins n o) (n+1) l
noncomputable def zem:BT→Nat→List Obj→Bool
 | _,_, []=>true
 | t,n,o :: l=>((t.ins n o).get n).isSome&&zem (t.ins n o) (n+1) l
theorem zcf:∀(l:List Obj) (t:BT) (n:Nat) (life:Life),zem t n l=true→absHeap (zhb t n l) (n+l.length) life=ext (absHeap t n life) l
 | [],t,n,life,_=>congrArg (Heap.mk · life) (Array.append_empty).symm
 | o :: l,t,n,life,h=>by
  have:=zcf l (t.ins n o) (n+1) life (aI h).2
  rw [absHeap_ins (aI h).1,Nat.add_right_comm] at this
  exact this.trans (congrArg (Heap.mk · life) (Array.toList_inj.mp (by
   show ((absHeap t n life).objs.push o++l.toArray).toList=((absHeap t n life).objs++(o :: l).toArray).toList
   rw [Array.toList_append,Array.toList_push,Array.toList_append,List.append_assoc]
   rfl)))
end Mn
end
section
open PySem PySem.W PySem.Calls
namespace Mn
open PySem.Sem (wp)
noncomputable def ctx0:Ctx:=⟨.builtin "claim.caller" {},none,none,[],none⟩
noncomputable def zay(p:Program)(code:Value)(frame:Addr):Env:={scope:=p.main.scope,locals:=mainNs,globals:=mainNs,cells:=[],code,frame:=some frame}
def zqa(p:Program)(env:Env)(q:Pos):Ctx:=ctx0.enter (.body (behindTheImports p) env) none q
structure Pc where
 ts:List Expr
 ks:List (Option Expr)
 vs:List Expr
 dpos:Pos
 pos:Pos
 kvs:List (Int×Str)
noncomputable def Pc.st(x:Pc):Stmt:= .Assign x.ts (.Dict x.ks x.vs x.dpos) x.pos
def zks(s:SharedT)(kvs:List (Int×Str)):SharedT:=
 let D:=zin kvs none s.toks []
 let l:=zg4 (zb5 D.1 D.2.1 D.2.2)
 {s with tree:=zhb s.tree s.n l,n:=s.n+l.length,toks:=D.2.1+3*D.2.2.length}
def zrB(s:SharedT)(kvs:List (Int×Str)):Bool:=
 let D:=zin kvs none s.toks []
 [zem s.tree s.n (zg4 (zb5 D.1 D.2.1 D.2.2)),Nat.blt 1 s.n,(zb5 D.1 D.2.1 D.2.2).isSome].all id
noncomputable def zjF{γ:Type}(f:Flow)(x:Option γ):Option γ:=Flow.casesOn (motive:=fun X=>Option γ) f x none none fun X=>none
def zsS{γ:Type}(den:Code→Sem PySem.Fin)(p:Program)(w:World)(ok:Addr→Bool)(N i:Nat)(x:Pc)(k:SharedT→γ)(s0:SharedT)(q:Pos):Option γ:=
 evK den p w ok N ctx0 (moduleCode p.main) default s0 fun code p1 s1=>evK den p w ok N ctx0 (newBodyFrame code mainNs mainNs) p1 s1 fun frame p2 s2=>
  evK den p w ok N (zqa p (zay p code frame) p2) (blockStart (behindTheImports p) (zay p code frame)) p2 s2 fun X p3 s3=>evK den p w ok N (zqa p (zay p code frame) p2) (execs ((behindTheImports p).take i) (zay p code frame)) p3 s3 fun f X s4=>zjF f
   (evK den p w ok N (zqa p (zay p code frame) p2) (swapsWithSole x.ts (.Dict x.ks x.vs x.dpos) x.pos.line (zay p code frame)) x.pos s4 fun b X s5=>cond b none (cond (zrB s5 x.kvs)
    (evK den p w ok N (zqa p (zay p code frame) p2) (do assignStores (zay p code frame) (.ref s5.n) (←swappedStores x.ts (.Dict x.ks x.vs x.dpos) (zay p code frame)) ((assignEach x.ts (zay p code frame)).map (·.2))) q (zks s5 x.kvs) fun f p6 s6=>zjF f
     (evK den p w ok N (zqa p (zay p code frame) p2) (execs ((behindTheImports p).drop (i+1)) (zay p code frame)) p6 s6 fun f X s7=>zjF f (some (k s7)))) none))
theorem zfg(l r:List Stmt)(env:Env):execs (l++r) env=execs l env>>=fun f=>match f with | .next=>execs r env | f=>pure f:=by
 induction l with
 | nil=>rfl
 | cons st l ih=>
  show (exec st env>>=fun f=>match f with | .next=>execs (l++r) env | f=>pure f)=((exec st env>>=fun f=>match f with | .next=>execs l env | f=>pure f)>>=_)
  rw [ih]
  rw [show∀(x:Sem Flow) (f:Flow→Sem Flow) (g:Flow→Sem Flow),(x>>=f)>>=g=x>>=fun a=>f a>>=g from fun x f g=>bind_assoc ..]
  congr 1
  funext f
  induction f <;> rfl
noncomputable def zqt(Γ:Ctx):Around:={handled:=Γ.handled,depth:=frameCount Γ.below+Γ.code.weight,units:=Γ.units}
theorem zmo(Γ:Ctx):Γ.In (zqt Γ):=⟨rfl,rL _,(fun X e=>nomatch e),(fun X e=>nomatch e),rL _⟩
section
variable {p:Program} {w:World} {ok:Addr→Bool} {N i:Nat} {x:Pc} {s0 s:SharedT} {γ:Type} {k:SharedT→γ} {y:γ}
theorem zcz{f:Flow}{x:Option γ}(h:zjF f x=some y):f = .next∧x=some y:=by
 induction f with
 | next=>exact ⟨rfl,h⟩
 | _=>exact no h
theorem zrA{Γ:Ctx}{q:Pos}{env:Env}(hi:(evalEachOpt x.ks env).zip ((evalEach x.vs env).map fun v=>do let y←v;standAt x.dpos;pure y)=x.kvs.map fun kv=>(some (zcY kv),zcE x.dpos kv))
  (ho:OkE [] (x.kvs.map (·.1))) (hz:x.kvs.length≤sizeLine) (hd:zrB s x.kvs=true):W (model p w) ok Γ (eval (.Dict x.ks x.vs x.dpos) env) q s fun v X S=>v = .ref s.n∧S=zks s x.kvs:=by
 have e:=zcf _ _ _ s.life (zai 0 hd)
 have hs:s.abs.heap.objs.size=s.n:=absHeap_size ..
 have K:Kept ok s (zks s x.kvs):=⟨Nat.le_add_right _ _,fun b o X h=>((congrArg (Heap.get? · b) e).trans (Heap.get?_some_iff.mpr ((Heap.get?_some_iff.mp h).imp (fun z=>(Array.getElem?_append_left (Heap.lt_size h)).trans z) id)) :),rfl,rfl,rfl⟩
 have D:wpAny (model p w) (zqt Γ) (eval (.Dict x.ks x.vs x.dpos) env) (fun v s'=>v = .ref s.n∧s'=(zks s x.kvs).abs) (fun X X=>False) s.abs:=by
  rw [arm_eval_Dict,hi]
  refine wB (wpAny_standAt ?_)
  exact Eq.mp (congrArg (wpAny _ _ _ _ _) (congrArg (fun a=>Shared.mk (Heap.mk a s.life) s.gens s.drawn s.toks s.os) Array.append_empty:Bs.st ⟨s.abs.heap,s.gens,s.drawn,s.os⟩ [] s.toks=s.abs)) (zim (B:=⟨s.abs.heap,s.gens,s.drawn,s.os⟩) (t:=s.toks) x.dpos ho hz (hs▸jL (zai 1 hd)) rfl (zai 2 hd) ⟨congrArg Value.ref hs,congrArg (Shared.mk · s.gens s.drawn (zks s x.kvs).toks s.os) e.symm⟩)
 exact Sem.wp_mono _ _ _ (fun v X σ z=>⟨_,z.2,K,z.1,rfl⟩) (fun X X X z=>z) _ _ (D Γ q (zmo Γ))
theorem zsR(hst:(behindTheImports p)[i]? = some x.st)(hi:∀env,(evalEachOpt x.ks env).zip ((evalEach x.vs env).map fun v=>do let y←v;standAt x.dpos;pure y)=x.kvs.map fun kv=>(some (zcY kv),zcE x.dpos kv))
  (ho:OkE [] (x.kvs.map (·.1))) (hz:x.kvs.length≤sizeLine) (h:∀q,zsS (denote table) p w ok N i x k s0 q=some y):W (model p w) ok ctx0 (topStub p).cur default s0 fun fin X S=>fin = .done (.ret .none)∧k S=y:=by
 obtain ⟨lt,eg⟩:=gE hst
 have hs:behindTheImports p=(behindTheImports p).take i++x.st :: (behindTheImports p).drop (i+1):=(List.take_append_drop i _).symm.trans (congrArg ((behindTheImports p).take i ++ ·) ((List.drop_eq_getElem_cons lt).trans (eg▸rfl)))
 show W _ _ _ (moduleCode p.main>>=fun code=>newBodyFrame code mainNs mainNs>>=fun frame=>run (.body (behindTheImports p) (zay p code frame))>>=fun X=>ret .none) _ _ _
 refine W.step default h fun code p1 s1 h=>W.step default h fun frame p2 s2 h=>W.bind (W.run (Φ:=fun X X S=>k S=y) ?_) fun X X X z=>W.pure ⟨rfl,z⟩
 refine W.step default h fun X p3 s3 h=>W.bind (Φ:=fun X X S=>k S=y) (W.raise ?_) fun f X S z=>W.pure ⟨f,rfl,z⟩
 rw [show execs (behindTheImports p) (zay p code frame)=execs ((behindTheImports p).take i++x.st :: (behindTheImports p).drop (i+1)) (zay p code frame) from congrArg (execs · _) hs,zfg]
 refine W.step default h fun f p4 s4 h=>?_
 obtain ⟨rfl,X⟩:=zcz (h default)
 refine W.bind (Φ:=fun f p6 s6=>f = .next∧evK (denote table) p w ok N (zqa p (zay p code frame) p2) (execs ((behindTheImports p).drop (i+1)) (zay p code frame)) p6 s6 (fun f X s7=>zjF f (some (k s7)))=some y) (W.at (W.step default (fun q=>(zcz (h q)).2) fun b p5 s5 h=>?_)) fun f p6 s6 z=>?_
 ·induction b with
  | true=>exact no (h default)
  | false=>
   have d:=(cnd (h default)).1
   refine W.bind (zrA (p:=p) (w:=w) (hi _) ho hz d) fun v q S z=>?_
   obtain ⟨rfl,rfl⟩:=z
   exact W.ev () (fun X=>(cnd (h q)).2) fun f p6 s6 z=>zcz (z ())
 ·obtain ⟨rfl,z⟩:=z
  exact W.ev () (fun X=>z) fun f X S z=>sI (zcz (z ())).2
end
open PySem.Sem (wp)
section
variable {den:Code→Sem PySem.Fin} {p:Program} {w:World}
theorem zbI:∀(n:Nat) (s:Shared) (t:Thread) (σ:Shared) (τ:Thread),runN den p w n s t = .running σ τ→(∀k,k<n→∀s1 t1,runN den p w k s t = .running s1 t1→t1.calm=true)→s.asleep→
  schedN den p w n (.single s t) = .running (.single σ τ)
 | 0,s,t,σ,τ,h,_,_=>by
  have e:Run.running s t = .running σ τ:=h
  injection e with e1 e2
  subst e1 e2
  rfl
 | n+1,s,t,σ,τ,h,hc,hz=>by
  have e:=sstep_single den p w s t (hc 0 (Nat.succ_pos n) s t rfl) hz
  simp only [runN] at h
  induction hs:PySem.step den p w s t with
  | go s₂ t₂=>
   rw [hs] at h e
   rcases e with e | e
   ·simp only [schedN,e,Step.lift]
    exact zbI n s₂ t₂ σ τ h (fun k hk s₁ t₁ q=>hc (k+1) (Nat.succ_lt_succ hk) s₁ t₁ (by simp only [runN,hs];exact q)) (Shared.asleep_of_life (step_life den p w s s₂ t t₂ hs) hz)
   ·cases e
  | halt o₂ s₂=>rw [hs] at h;cases h
theorem zdp{n:Nat}{s:Shared}{t:Thread}{s':Shared}{t':Thread}(h:runNI den p w n s t = .running s' t'):∀k,k<n→∀s₁ t₁,runNK den p w k s t = .running s₁ t₁→t₁.calm=true:=by
 induction n generalizing s t with
 | zero=>intro k hk;exact absurd hk (zN k)
 | succ n ih=>
  simp only [runNI] at h
  induction hl:t.loud with
  | true=>simp only [stepI_loud den p w hl] at h;cases h
  | false=>
   simp only [stepI_quiet den p w hl] at h
   have hcalm:t.calm=true:=by
    rw [Thread.calm_eq,hl]
    induction hr:t.refused with
    | false=>rfl
    | true=>
     obtain ⟨what,e⟩:=stepK_refused den p w (s:=s) hr
     simp only [e] at h
     cases h
   induction hs:stepK den p w s t with
   | go s₂ t₂=>
    simp only [hs] at h
    intro k hk s₁ t₁ q
    induction k using Nat.casesOn with
    | zero=>injection q with _ e;exact e▸hcalm
    | succ k=>simp only [runNK,hs] at q;exact ih h k (Nat.lt_of_succ_lt_succ hk) s₁ t₁ q
   | halt o₂ s₂=>simp only [hs] at h;cases h
theorem zey{n:Nat}{s:Shared}{t:Thread}{s':Shared}{t':Thread}(h:runNI den p w n s t = .running s' t'):∀k,k<n→∀s₁ t₁,runN den p w k s t = .running s₁ t₁→t₁.calm=true:=by
 intro k hk s₁ t₁ q
 have e:=runNK_same den p w k (s₁:=s) (s₂:=s) (t₁:=t) (t₂:=t) rfl rfl
 rw [q] at e
 induction hr:runNK den p w k s t with
 | halted o₂ s₂=>rw [hr] at e;cases e
 | running s₂ t₂=>
  rw [hr] at e;simp only [Run.forget] at e;injection e with _ e2
  rw [←Thread.calm_forget t₁,←e2,Thread.calm_forget]
  exact zdp h k hk s₂ t₂ hr
theorem zhU{t:Sem PySem.Fin}{c:Code}{s:Shared}{P:Shared→Prop}(hz:s.asleep)(h:wp (model p w) (Ctx.of c []) t (fun fin X s'=>fin = .done (.ret .none)∧P s'∧s'.gens = #[]) (fun X X X=>False) default s):
  ∃s' n τ,schedN (denote table) p w n (.single s ⟨t,c,default, []⟩) = .running (.single s' τ)∧through τ=true∧P s'∧s'.heap.life=s.heap.life:=by
 obtain ⟨s',p',leaf,⟨n,hn⟩,hl⟩:=wp_comes (Ctx.fits_of c []) t _ _ _ _ h
 have hn':runNI (denote table) p w n s ⟨t,c,default, []⟩ = .running s' ⟨leaf,c,p', []⟩:=hn
 obtain ⟨σ,τ,hr,hσ,hτ⟩:=runNI_running_real hn'
 rcases hl with ⟨a,rfl,rfl,hP,hg⟩ | ⟨e,_,hF⟩
 ·obtain rfl:=Shared.eq_of_forget_eq hσ hg
  obtain ⟨cur,code,pos,stack⟩:=τ
  simp only [Thread.forget,Thread.mk.injEq,forgetAll] at hτ
  obtain ⟨e2,e3,e4,e5⟩:=hτ
  have hst:stack = []:=by induction stack using cL with | nil=>rfl | cons x xs=>simp at e5
  subst hst e2 e3 e4
  exact ⟨σ,n,_,zbI n _ _ _ _ hr (zey hn') hz,rfl,hP,runN_life_running hr⟩
 ·exact hF.elim
end
noncomputable def zus(p:Program)(h₀ h₁:Heap):List Bool:=[h₀.isNs mainGlobals,staticsOk (importedModules p.main.body) h₀ h₁,namesBound p h₁,laidKept h₀ h₁,h₁.accountedOkI (importedModules p.main.body),h₁.isNs mainGlobals,h₁.isNs builtinsNs,h₁.bmainOk,decide (h₁.bltView=bltViewBooted)]
noncomputable def zlM(n₀:Nat)(ann:Addr)(a:Addr):Bool:=Nat.ble n₀ a || (Nat.beq a mainNs || (Nat.beq a cStatics || Nat.beq a ann))
noncomputable def zrZ(p:Program):SharedT:=⟨.nil,0,{}, #[],{},1,{stdin:=p.given.stdin.toArray}⟩
noncomputable def znz(c:Code):Bool:=match c with
 | .builtin id a=>decide (id= "proto.exit.begin")&&decide (a.pos = [rawInt mainGlobals])&&a.kw.isEmpty
 | _=>false
def zlE(s:Shared):Option SharedT:=cond (zem .nil 0 s.heap.objs.toList) (some ⟨zhb .nil 0 s.heap.objs.toList,s.heap.objs.toList.length,s.heap.life,s.gens,s.drawn,s.toks,s.os⟩) none
noncomputable def zkw:Ctx:=⟨.builtin "boot" {},none,none,[],none⟩
def zlK(den:Code→Sem PySem.Fin)(p:Program)(w:World)(N:Nat):Option SharedT:=evK den (opening p) w (fun X=>true) N zkw (boot (opening p)) default (zrZ (opening p)) fun f X s=>PySem.Fin.casesOn (motive:=fun X=>Option SharedT) f (fun X=>none) fun c=>cond (znz c) ((fenceModules? p s.abs).bind zlE) none
section
variable {p:Program} {w:World}
theorem zja{s:Shared}{T:SharedT}(h:zlE s=some T):T.abs=s:=by
 obtain rfl:=sI (cnd h).2
 obtain ⟨⟨objs,life⟩,g,d,tk,os⟩:=s
 have:=zcf objs.toList .nil 0 life (cnd h).1
 rw [Nat.zero_add] at this
 exact (congrArg (Shared.mk · g d tk os) this).trans (congrArg (fun a=>Shared.mk (Heap.mk a life) g d tk os) (Array.empty_append (xs:=objs)))
theorem zk7{c:Code}(h:znz c=true):c = .builtin "proto.exit.begin" ⟨[rawInt mainGlobals],[]⟩:=by
 induction c with
 | builtin id a=>
  obtain ⟨pos,kw⟩:=a
  have q:=aI h
  obtain rfl:id=_:=oD (aI q.1).1
  obtain rfl:pos=_:=oD (aI q.1).2
  obtain rfl:kw = []:=eI q.2
  rfl
 | _=>exact nb h
theorem zg1{N:Nat}{S0:SharedT}(h:zlK (denote table) p w N=some S0):(∃s,AfterRun (opening p) w s)∧∀s,AfterRun (opening p) w s→fenceModules? p s=some S0.abs∧S0.abs.asleep:=by
 have wpb:W (model (opening p) w) (fun X=>true) zkw (boot (opening p)) default (zrZ (opening p)) fun fin X S=>fin = .again (.builtin "proto.exit.begin" ⟨[rawInt mainGlobals], []⟩)∧(fenceModules? p S.abs).bind zlE=some S0:=W.ev () (fun X=>h) fun f X S z=>by
  have z:=z ()
  induction f with
  | done=>exact no z
  | again c=>exact ⟨congrArg _ (zk7 (cnd z).1),(cnd z).2⟩
 have wpb:=W.use (Q:=fun fin X s'=>fin = .again (.builtin "proto.exit.begin" ⟨[rawInt mainGlobals], []⟩)∧(fenceModules? p s').bind zlE=some S0∧s'.gens = #[]) wpb fun fin q S K e=>⟨e.1,e.2,K.gens⟩
 obtain ⟨⟨s,hs⟩,hall⟩:=AfterImport.of_wp wpb
 refine ⟨⟨_,hs⟩,fun s' hs'=>?_⟩
 obtain ⟨s2,hf,hr⟩:=bE (hall s' hs')
 rw [zja hr]
 exact ⟨hf,Shared.asleep_of_life (fence_lifeW hf) (AfterImport.life hs')⟩
def zrl{γ:Type}(den:Code→Sem PySem.Fin)(p:Program)(ok:Addr→Bool)(N i:Nat)(x:Pc)(k:SharedT→SharedT→γ)(w:World)(q:Pos):Option γ:=(zlK den p w N).bind fun s0=>zsS den p w ok N i x (k s0) s0 q
theorem nbF{a b:Nat}(h:a≠b):Nat.beq a b=false:=Bool.eq_false_iff.mpr fun q=>h (qB q)
theorem zhL{n₀ ann N i:Nat}{x:Pc}{γ:Type}{k:SharedT→SharedT→γ}{y:γ}(hst:(behindTheImports p)[i]? = some x.st)(hi:∀env,(evalEachOpt x.ks env).zip ((evalEach x.vs env).map fun v=>do let y←v;standAt x.dpos;pure y)=x.kvs.map fun kv=>(some (zcY kv),zcE x.dpos kv))
  (ho:OkE [] (x.kvs.map (·.1))) (hz:x.kvs.length≤sizeLine) (hk:∀S0 S,k S0 S=y→(zus p S0.abs.heap S.abs.heap).all id=true)
  (hn:∀S0,zlK (denote table) p w N=some S0→S0.n=n₀∧S0.abs.heap.nsMap mainGlobals "__annotations__" =some (.ref ann)∧S0.abs.heap.isNs mainGlobals=true∧S0.gens = #[]) (h:∀q,zrl (denote table) p (zlM n₀ ann) N i x k w q=some y):
  (∃s,AfterRun (opening p) w s)∧∀s,AfterRun (opening p) w s→∃s₀,fenceModules? p s=some s₀∧s₀.gens = #[]∧∃S0 S:SharedT,s₀=S0.abs∧TopRan p w s₀ S.abs∧S.abs.asleep∧S.gens = #[]∧S.abs.heap.isNs mainGlobals=true∧k S0 S=y:=by
 obtain ⟨S0,hO,X⟩:=bE (h default)
 have h:∀q,zsS (denote table) p w (zlM n₀ ann) N i x (k S0) S0 q=some y:=fun q=>(congrArg (Option.bind · _) hO).symm.trans (h q)
 obtain ⟨hn1,hn2,hn3,hn4⟩:=hn S0 hO
 obtain ⟨hex,hall⟩:=zg1 hO
 refine ⟨hex,fun s hs=>?_⟩
 obtain ⟨hf,hz0⟩:=hall s hs
 refine ⟨S0.abs,hf,hn4,?_⟩
 obtain ⟨s',n,τ,r1,r2,⟨S,rfl,K,P⟩,r4⟩:=zhU (P:=fun s'=>∃S:SharedT,s'=S.abs∧Kept (zlM n₀ ann) S0 S∧k S0 S=y) hz0 (W.use (zsR hst hi ho hz h) fun fin q S K z=>⟨z.1,⟨S,rfl,K,z.2⟩,K.gens.trans hn4⟩)
 have e:=hk S0 S P
 have hg:S.gens = #[]:=K.gens.trans hn4
 have c6:S.abs.heap.isNs mainGlobals=true:=zai 5 e
 have c7:S.abs.heap.isNs builtinsNs=true:=zai 6 e
 refine ⟨S0,S,rfl,⟨⟨n,τ,r1,r2⟩,r4,Shared.rest_eq K.os,fun b o hb ht=>K.obj b o ?_ hb,Heap.accountedI_of_ok (zai 4 e),statics_of_ok (zai 1 e),Pin.keysAreStrs_of c6,fun x hx=>(Pin.builtinOf_eq c7 x).trans (Heap.of_bltView c7 (oD (zai 8 e)) x hx),?_,
  fun g hg'=>(nomatch (hg▸hg':g∈(#[]:Array GenState))),names_of_bound (zai 2 e),laid_of_kept (zai 3 e)⟩,Shared.asleep_of_life r4 hz0,hg,c6,P⟩
 ·have lt:b<n₀:=hn1▸(absHeap_size .. :S0.abs.heap.objs.size=S0.n)▸Heap.lt_size hb
  exact Bool.or_eq_false_iff.mpr ⟨Bool.eq_false_iff.mpr fun q=>Nat.not_le_of_lt lt (jL q),Bool.or_eq_false_iff.mpr ⟨nbF fun e=>ht (.inl e),Bool.or_eq_false_iff.mpr ⟨nbF fun e=>ht (.inr (.inl e)),nbF fun e=>ht (.inr (.inr ((Pin.globalOf_eq hn3 _).trans (hn2.trans (congrArg (fun a=>some (Value.ref a)) e.symm)))))⟩⟩⟩
 ·obtain ⟨bm,ob,a,X,c',d,f',Z⟩:=Heap.bmainOk_spec (zai 7 e)
  exact ⟨bm,ob,(Pin.globalOf_eq c6 _).trans a,c',d,f'⟩
end
noncomputable abbrev zbe(vs:Array Value):Obj:={cls:= .type "list",data:= .seq vs}
theorem zh6(R:WRecords)(cl:Str→Option Addr)(P:Params)(ord:List DictEntry→List DictEntry):∀(is:List Int) (s:Shared),∃vs tk,layAllW R cl P ord (is.map .int) s=some (vs,{s with toks:=tk})∧PyProof.Rows.IntsAre vs is
 | [],s=>⟨[],s.toks,rfl, .nil⟩
 | i :: is,s=>by
  obtain ⟨vs,tk,h1,h2⟩:=zh6 R cl P ord is {s with toks:=s.toks+1}
  refine ⟨.int i s.toks :: vs,tk,?_, .cons _ _ h2⟩
  show (match layAllW R cl P ord (is.map .int) {s with toks:=s.toks+1} with | some r=>some (Value.int i s.toks :: r.1,r.2) | Option.none=>Option.none)=_
  rw [h1]
theorem zm9(R:WRecords)(cl:Str→Option Addr)(P:Params)(ord:List DictEntry→List DictEntry)(is:List Int)(s:Shared):∃vs tk,layAllW R cl P ord [.list (is.map .int)] s=some ([.ref s.heap.objs.size],{s with heap:=s.heap.push (zbe vs.toArray),toks:=tk})∧PyProof.Rows.IntsAre vs is:=by
 obtain ⟨vs,tk,h1,h2⟩:=zh6 R cl P ord is s
 refine ⟨vs,tk,?_,h2⟩
 unfold layAllW layW
 rw [h1]
 rfl
theorem zjp{l:OpenLaw}(a b:List WData):l.row.toRowW.claim.post a (.bool true) b=true:=by
 show (WShape.has [] (.bool true) .bool&&(WTm.eq .res (.lit (.bool true))).holds [] {args:=a,res:=some (.bool true),after:=b})=true
 have h1:WShape.has [] (.bool true) .bool=true:=by decide +kernel
 have h2:(WTm.eq .res (.lit (.bool true))).holds [] {args:=a,res:=some (.bool true),after:=b}=true:=by
  unfold WTm.holds
  simp only [WTm.value]
  have:same (.bool true) (.bool true)=true:=by decide +kernel
  rw [this]
 rw [h1,h2];rfl
theorem zd2{R:WRecords}:∀{xs:List WData},WShape.hasItems R xs .int=true→∃is:List Int,xs=is.map .int
 | [],_=>⟨[],rfl⟩
 | x :: xs,h=>by
  unfold WShape.hasItems at h
  obtain ⟨h1,h2⟩:=aI h
  obtain ⟨i,rfl⟩:=hasW_int h1
  obtain ⟨is,rfl⟩:=zd2 h2
  exact ⟨i :: is,rfl⟩
theorem zlF{l:OpenLaw}(hm:l.most=some 63){args:List WData}(h:l.row.toRowW.claim.pre args=true):∃is:List Int,args = [.list (is.map .int)]∧is.length≤63:=by
 obtain ⟨h1,h2⟩:=pre_splitW h
 obtain ⟨d,r,rfl,h3,h4⟩:=hasAllW_cons h1
 obtain ⟨xs,rfl,h5⟩:=hasW_list h3
 obtain ⟨is,rfl⟩:=zd2 h5
 have hr:r = []:=by
  induction r using cL with
  | nil=>rfl
  | cons X Z=>simp [WShape.hasAll] at h4
 subst hr
 refine ⟨is,rfl,?_⟩
 have h2:WTm.holds [] l.pre {args:= [.list (is.map .int)]}=true:=h2
 unfold OpenLaw.pre at h2
 rw [hm] at h2
 unfold WTm.holds at h2
 simp only [WTm.value,List.getElem?_cons_zero,List.length_map] at h2
 by_cases q:is.length≤63
 ·exact q
 ·exfalso
  have e:less? (.int 63) (.int (is.length:Int))=some true:=by
   show some (decide ((63:Int)<(is.length:Int)))=some true
   congr 1
   exact dT (by omega)
  have e:less? (.int ((63:Nat):Int)) (.int (is.length:Int))=some true:=e
  simp only [e,Option.map_some,Bool.not_true] at h2
  cases h2
structure BehA(p:Program)(name:Str)(w:World)(s₀ s₁:Shared)(a:Addr):Prop where
 top:TopRan p w s₀ s₁
 sleep:s₁.asleep
 gens:s₁.gens = #[]
 ns:s₁.heap.isNs mainGlobals=true
 df:isTheDefsW p s₁.heap name
 at_:s₁.heap.nsMap mainGlobals name=some (.ref a)
 call:∀(is:List Int) (vs:List Value) (tk:Nat),is.length≤63→PyProof.Rows.IntsAre vs is→
  wpAny (model p w) callerA (call (.ref a) [.ref s₁.heap.objs.size]) (fun v s'=>v = .bool true∧OldK (s₁.heap.push (zbe vs.toArray)) s'.heap∧s'.os=s₁.os∧s'.gens = #[]) (fun X X=>False) {s₁ with heap:=s₁.heap.push (zbe vs.toArray),toks:=tk}
def Beh(p:Program)(name:Str)(w:World):Prop:=(∃s,AfterRun (opening p) w s)∧∀s,AfterRun (opening p) w s→∃s₀ s₁ a,fenceModules? p s=some s₀∧s₀.gens = #[]∧BehA p name w s₀ s₁ a
theorem zif{l:OpenLaw}(k1:l.row.wellSaid=true)(hw:l.row.toRowW.promised)(hb:l.prog.bare)(ho:opensWell l.prog=true)(hwr:l.writes=false)(hfree:frees l.row.toRowW=true)
  (hpre:∀args,l.row.toRowW.claim.pre args=true→∃is:List Int,args = [.list (is.map .int)]∧is.length≤63)
  (beh:∀w,Beh l.prog l.name w):l.row.Holds:=by
 refine ⟨k1,hw,⟨hb,ho,rfl⟩,hw.witness,fun w=>⟨(beh w).1,fun s hs=>?_⟩⟩
 obtain ⟨s₀,s₁,a,hf,hg0,H⟩:=(beh w).2 s hs
 refine ⟨s₀,hf,hg0,s₁,H.top,fun n hn=>?_,fun x hx=>(nomatch hx),fun x hx=>(nomatch hx),?_⟩
 ·have hn:n∈ [l.name]:=hn
  rw [List.mem_singleton.mp hn];exact H.df
 ·show ClaimW.CallFrom (fun vs=>⟨do match←nsGet mainNs l.name with
    | some f=>do ret (←PySem.call f vs)
    | none=>unsupported "claim.caller:no-such-global", .builtin "claim.caller" {},default, []⟩) _ _ _ _ _ _
  refine ClaimW.callFrom_of_specG (c:=l.row.toRowW.claim) H.sleep H.gens fun args hp hlay ord hord=>?_
  obtain ⟨is,rfl,hlen⟩:=hpre args hp
  obtain ⟨vs,tk,hlaid,hI⟩:=zm9 l.row.toRowW.claim.records (classAt s₁.heap) w.params ord is s₁
  refine ⟨_,_,hlaid,?_⟩
  have keeps:=layAllW_keeps _ _ _ hlaid
  have hal:=layAllW_rest _ _ _ hlaid
  obtain ⟨as,hrd,hin,hold⟩:=reads_layAllW hord _ _ _ hlaid hlay _ (fun X X e=>e)
  have L:Laid l.row.toRowW.claim.records w s₁ {s₁ with heap:=s₁.heap.push (zbe vs.toArray),toks:=tk} [.list (is.map .int)] [.ref s₁.heap.objs.size] as:=⟨⟨ord,hord,hlaid⟩,hrd,hin,hold,keeps,hal.1.trans H.gens,hal.2.2.1⟩
  obtain ⟨hsame,hu,hafter,hap,hm⟩:=frees_parts hfree
  have hi:=ident_freeW hu hafter hap
  have hNs:=Heap.Ns.of_isNs H.ns
  refine wB (wpAny_nsGet (hNs.keeps keeps) ?_)
  rw [H.at_]
  refine wB (wpAny_mono (H.call is vs tk hlen hI) (fun v s' q=>wP ⟨_,rfl,?_⟩) fun X X q=>q.elim)
  obtain ⟨rfl,q1,q2,q3⟩:=q
  have g:GoodWG l.row.toRowW.claim (classAt s₁.heap) (ExcName.means s₁.heap) [.list (is.map .int)] {s₁ with heap:=s₁.heap.push (zbe vs.toArray),toks:=tk} (.ok (.ret (.bool true))) s':=
   ⟨.inl ⟨.bool true, .bool true, [],rfl,fun cls=>rfl, .bool _,zjp _ _,fun X=>⟨List.nodup_nil,fun X h=>(nomatch h)⟩⟩,q1,q2,PyProof.Rows.AllBare.of_eq q3⟩
  have z:=g.laid (c:=l.row.toRowW.claim) hsame rfl hi L
  exact ⟨z.1,z.2.1,z.2.2,fun q=>by rw [show l.row.writes=l.writes from rfl,hwr] at q;cases q⟩
end Mn
end
section
open PySem PySem.W PyProof.Rows PySem.Calls PySem.SeqAt PySem.Builtin.Re
namespace Mn
noncomputable section
noncomputable def gB{α:Type}(o:Option α)(k:α→Bool):Bool:=Option.casesOn (motive:=fun X=>Bool) o false k
theorem gB.ex{α:Type}{o:Option α}{k:α→Bool}(h:gB o k=true):∃a,o=some a∧k a=true:=by
 induction o with
 | none=>exact nb h
 | some a=>exact ⟨a,rfl,h⟩
theorem zuA{α:Type}{b:Bool}{x:Option α}{z:α}(h:cond b none x=some z):b=false∧x=some z:=by
 induction b with
 | true=>exact no h
 | false=>exact ⟨rfl,h⟩
theorem zaQ{a b:Bool}(h:(a&&b)=true):a=true∧b=true:=aI h
noncomputable def i?(v:Value):Option Int:=Value.casesOn (motive:=fun X=>Option Int) v none none none (fun X=>none) (fun i X=>some i) (fun X X=>none) (fun X X=>none) (fun X X=>none) (fun X=>none) (fun X=>none) fun X=>none
noncomputable def r?(v:Value):Option Addr:=Value.casesOn (motive:=fun X=>Option Addr) v none none none (fun X=>none) (fun X X=>none) (fun X X=>none) (fun X X=>none) (fun X X=>none) (fun X=>none) (fun X=>none) fun a=>some a
noncomputable def s?(v:Value):Option Str:=Value.casesOn (motive:=fun X=>Option Str) v none none none (fun X=>none) (fun X X=>none) (fun X X=>none) (fun s X=>some s) (fun X X=>none) (fun X=>none) (fun X=>none) fun X=>none
noncomputable def b?(v:Value):Option Bool:=Value.casesOn (motive:=fun X=>Option Bool) v none none none (fun b=>some b) (fun X X=>none) (fun X X=>none) (fun X X=>none) (fun X X=>none) (fun X=>none) (fun X=>none) fun X=>none
theorem zk9{v:Value}{i:Int}:i? v=some i→∃t,v = .int i t:=by induction v with
 | int j t=>exact fun e=>⟨t,congrArg (Value.int · t) (sI e)⟩
 | _=>exact no
theorem zoC{v:Value}{a:Addr}:r? v=some a→v = .ref a:=by induction v with
 | ref b=>exact fun e=>congrArg _ (sI e)
 | _=>exact no
theorem zqS{v:Value}{s:Str}:s? v=some s→∃t,v = .str s t:=by induction v with
 | str j t=>exact fun e=>⟨t,congrArg (Value.str · t) (sI e)⟩
 | _=>exact no
theorem ztP{v:Value}{b:Bool}:b? v=some b→v = .bool b:=by induction v with
 | bool b=>exact fun e=>congrArg _ (sI e)
 | _=>exact no
noncomputable def fl?(d:Data):Option (Array Value):=Data.casesOn (motive:=fun X=>Option (Array Value)) d none (fun X=>none) (fun X X=>none) (fun X X=>none) (fun X X X=>none) (fun X X=>none) (fun X=>none) (fun X=>none) (fun X=>none) (fun v=>some v) none
noncomputable def sq?(d:Data):Option (Array Value×Nat):=Data.casesOn (motive:=fun X=>Option (Array Value×Nat)) d none (fun X=>none) (fun v n=>some (v,n)) (fun X X=>none) (fun X X X=>none) (fun X X=>none) (fun X=>none) (fun X=>none) (fun X=>none) (fun X=>none) none
noncomputable def di?(d:Data):Option (Array DictEntry×Nat):=Data.casesOn (motive:=fun X=>Option (Array DictEntry×Nat)) d none (fun X=>none) (fun X X=>none) (fun v n=>some (v,n)) (fun X X X=>none) (fun X X=>none) (fun X=>none) (fun X=>none) (fun X=>none) (fun X=>none) none
noncomputable def se?(d:Data):Option (Array (Int×Value)×Nat×SetTable):=Data.casesOn (motive:=fun X=>Option (Array (Int×Value)×Nat×SetTable)) d none (fun X=>none) (fun X X=>none) (fun X X=>none) (fun v n t=>some (v,n,t)) (fun X X=>none) (fun X=>none) (fun X=>none) (fun X=>none) (fun X=>none) none
noncomputable def fu?(d:Data):Option FuncData:=Data.casesOn (motive:=fun X=>Option FuncData) d none (fun X=>none) (fun X X=>none) (fun X X=>none) (fun X X X=>none) (fun X X=>none) (fun X=>none) (fun f=>some f) (fun X=>none) (fun X=>none) none
theorem zkj{d:Data}{x:Array Value}:fl? d=some x→d = .fields x:=by induction d with
 | fields v=>exact fun e=>congrArg _ (sI e)
 | _=>exact no
theorem zqN{d:Data}{x:Array Value×Nat}:sq? d=some x→d = .seq x.1 x.2:=by induction d with
 | seq v n=>exact fun e=>sI e▸rfl
 | _=>exact no
theorem zrC{d:Data}{x:Array DictEntry×Nat}:di? d=some x→d = .dict x.1 x.2:=by induction d with
 | dict v n=>exact fun e=>sI e▸rfl
 | _=>exact no
theorem zqR{d:Data}{x:Array (Int×Value)×Nat×SetTable}:se? d=some x→d = .set x.1 x.2.1 x.2.2:=by induction d with
 | set v n t=>exact fun e=>sI e▸rfl
 | _=>exact no
theorem zrn{d:Data}{x:FuncData}:fu? d=some x→d = .func x:=by induction d with
 | func v=>exact fun e=>congrArg _ (sI e)
 | _=>exact no
noncomputable def TabsL.tA(T:TabsL):List Addr:=T.tabs.map (·.1)
noncomputable def ob?(S:SharedT)(a:Nat):Option Obj:=cond (Nat.blt a S.n) ((S.tree.get a).bind alive) none
theorem zdA{S:SharedT}{a:Nat}{o:Obj}(h:ob? S a=some o):S.abs.heap.get? a=some o:=(bE (cnd h).2).elim fun X q=>(abs_get (jL (cnd h).1) q.1).trans q.2
def zq6(S:SharedT)(bad:List Addr):Frag:=(List.range S.n).filterMap fun a=>cond (bad.contains a) none ((ob? S a).map fun o=>(a,o))
theorem zal{α β:Type}[BEq α][LawfulBEq α]{a:α}{b:β}:∀{l:List (α×β)},l.lookup a=some b→(a,b)∈l
 | (x,y) :: l,h=>by
  rw [List.lookup_cons] at h
  revert h
  induction q:a==x with
  | true=>exact fun h=>eq_of_beq q▸sI h▸mS
  | false=>exact fun h=>mM _ (zal h)
theorem zeq{S:SharedT}{bad:List Addr}{a:Addr}{o:Obj}(h:(zq6 S bad).lookup a=some o):S.abs.heap.get? a=some o∧a∉bad:=(List.mem_filterMap.mp (zal h)).elim fun X q=>(jE (zuA q.2).2).elim fun X z=>(Prod.mk.inj z.2).1▸(Prod.mk.inj z.2).2▸⟨zdA z.1,fun m=>nb ((zuA q.2).1.symm.trans (List.contains_iff_mem.mpr m))⟩
noncomputable def tok(v:Value):Tok:=Value.casesOn (motive:=fun X=>Tok) v 0 0 0 (fun X=>0) (fun X t=>t) (fun X X=>0) (fun X X=>0) (fun X X=>0) (fun X=>0) (fun X=>0) fun X=>0
def zsg(x:AV)(v:Value):Bool:=AV.casesOn (motive:=fun X=>Bool) x (decide (v = .none)) (fun b=>decide (v = .bool b)) (fun i=>decide (v = .int i (tok v))) (fun X=>false) (fun X=>false) (fun a=>decide (v = .ref a)) (fun m=>decide (v = .builtin m.id)) (fun m=>decide (v = .type m.id)) (fun X=>false) (fun X=>false) false
theorem zfJ{x:AV}{v:Value}(h:zsg x v=true):VR0 x v:=by
 induction x with
 | none=>exact oD (p:=v=_) h
 | bool=>exact oD (p:=v=_) h
 | glob=>exact oD (p:=v=_) h
 | bi=>exact oD (p:=v=_) h
 | ty=>exact oD (p:=v=_) h
 | int i=>exact ⟨_,oD h⟩
 | _=>exact nb h
def zoc(xs:List AV):List Value→Bool:=List.rec (motive:=fun X=>List Value→Bool) (fun l=>List.casesOn (motive:=fun X=>Bool) l true fun X X=>false) (fun x X ih l=>List.casesOn (motive:=fun X=>Bool) l false fun v r=>zsg x v&&ih r) xs
theorem zll{xs:List AV}:∀{vs:List Value},zoc xs vs=true→Rs VR0 xs vs:=by
 induction xs with
 | nil=>exact fun {vs}=>by induction vs using cL with
  | nil=>exact fun X=> .nil
  | cons=>exact fun h=>nb h
 | cons x xs ih=>exact fun {vs}=>by induction vs using cL with
  | nil=>exact fun h=>nb h
  | cons=>exact fun h=> .cons (zfJ (zaQ h).1) (ih (zaQ h).2)
def ba?(S:SharedT)(a:Nat):Option (Value×Data):=(ob? S a).bind fun o=>cond (o.dict.isNone&&o.slots.isEmpty) (some (o.cls,o.data)) none
theorem zfA{S:SharedT}{a:Nat}{x:Value×Data}(h:ba? S a=some x):S.abs.heap.get? a=some {cls:=x.1,data:=x.2}:=(bE h).elim fun o q=>by
 obtain ⟨cl,d,dt,sl⟩:=o
 obtain ⟨e,q2⟩:=cnd q.2
 obtain rfl:=sI q2
 obtain rfl:=jN (zaQ e).1
 obtain rfl:=Array.isEmpty_iff.mp (zaQ e).2
 exact zdA q.1
def fs?(S:SharedT)(a:Nat):Option (Value×Array Value):=(ob? S a).bind fun o=>(fl? o.data).map (o.cls,·)
theorem zro{S:SharedT}{a:Nat}{x:Value×Array Value}(h:fs? S a=some x):∃o,S.abs.heap.get? a=some o∧o.cls=x.1∧o.data = .fields x.2:=(bE h).elim fun o q=>(jE q.2).elim fun v z=>z.2▸⟨o,zdA q.1,rfl,zkj z.1⟩
def it?(S:SharedT)(a:Nat):Option (Array Value×Nat):=(ob? S a).bind fun o=>sq? o.data
theorem znx{S:SharedT}{a:Nat}{x:Array Value×Nat}(h:it? S a=some x):∃o,S.abs.heap.get? a=some o∧o.data = .seq x.1 x.2:=(bE h).imp fun X q=>⟨zdA q.1,zqN q.2⟩
def fn?(S:SharedT)(a:Nat):Option FuncData:=(ob? S a).bind fun o=>fu? o.data
theorem znF{S:SharedT}{a:Nat}{x:FuncData}(h:fn? S a=some x):∃o,S.abs.heap.get? a=some o∧o.data = .func x:=(bE h).imp fun X q=>⟨zdA q.1,zrn q.2⟩
section
variable (T:TabsL) (S:SharedT)
noncomputable def out(a:Nat):Bool:=!T.tA.contains a
theorem zbo{T:TabsL}{a:Nat}(h:out T a=true):a∉T.tA:=fun q=>nb ((congrArg not (List.contains_iff_mem.mpr q)).symm.trans h)
def bare(t:Addr):Bool:=gB (ba? S t) fun x=>decide (x.1 = .none)&&gB (fl? x.2) fun ps=>ps.isEmpty
theorem zgn{S:SharedT}{t:Addr}(h:bare S t=true):S.abs.heap.get? t=some {cls:= .none,data:= .fields #[]}:=(gB.ex h).elim fun x q=>(gB.ex (zaQ q.2).2).elim fun ps z=>(zfA q.1).trans (by rw [oD (zaQ q.2).1,zkj z.1,Array.isEmpty_iff.mp z.2])
theorem zqT{v:Value}(h:(s? v).isSome=true):∃s t,v = .str s t:=(iE h).imp fun X=>zqS
theorem zrk{v:Value}(h:(i? v).isSome=true):∃s t,v = .int s t:=(iE h).imp fun X=>zk9
theorem ztQ{v:Value}(h:(b? v).isSome=true):∃b,v = .bool b:=(iE h).imp fun X=>ztP
def tcL(c:Addr)(x:Value×Array Value)(t:Nat×Nat×Nat):List Bool:=[T.tA.contains t.1,decide (T.tabs.lookup t.1=some t.2),decide (x.1 = .type "code"),decide (x.2[11]? = some (.ref t.1)),decide (x.2.getD 11 .none = .ref t.1),decide (c≠t.1),
 (s? (x.2.getD 18 .none)).isSome,(i? (x.2.getD 7 .none)).isSome,(b? (x.2.getD 9 .none)).isSome,(i? (x.2.getD 10 .none)).isSome,bare S t.1]
def znL(cd:Value)(tab:Option (Nat×Nat×Nat)):Bool:=gB (r? cd) fun c=>out T c&&gB (fs? S c) fun x=>gB (x.2[1]?) fun v=>(s? v).isSome&&Option.casesOn (motive:=fun X=>Bool) tab true fun t=>(tcL T S c x t).all id
theorem zqx{T:TabsL}{S:SharedT}{c:Addr}{x:Value×Array Value}{t l k:Nat}{o:Obj}(e:S.abs.heap.get? c=some o∧o.cls=x.1∧o.data = .fields x.2)(h:(tcL T S c x (t,l,k)).all id=true):
  t∈T.tA∧(T.tabs.lookup t).getD (0,0)=(l,k)∧S.abs.heap.TableAt c t #[]∧S.abs.heap.IsCode c t #[]:=by
 have b:=zgn (zai 10 h)
 refine (zqT (zai 6 h)).elim fun f z=>z.elim fun u1 e6=>(zrk (zai 7 h)).elim fun g z=>z.elim fun u2 e7=>(ztQ (zai 8 h)).elim fun n e8=>(zrk (zai 9 h)).elim fun m z=>z.elim fun u3 e9=>?_
 exact ⟨List.contains_iff_mem.mp (zai 0 h),congrArg (·.getD (0,0)) (oD (zai 1 h)),⟨⟨o,x.2,e.1,e.2.1.trans (oD (zai 2 h)),e.2.2,oD (zai 3 h)⟩,b⟩,
  o,x.2,f,u1,g,u2,n,m,u3,_,e.1,e.2.2,oD (zai 4 h),e6,e7,e8,e9,b,rfl,trivial,oD (zai 5 h)⟩
theorem zfn{T:TabsL}{S:SharedT}{v:Value}{tab:Option (Nat×Nat×Nat)}(h:znL T S v tab=true):∃cd oc vs q t,v = .ref cd∧cd∉T.tA∧S.abs.heap.get? cd=some oc∧oc.data = .fields vs∧vs[1]? = some (.str q t)∧
  ∀t l k,tab=some (t,l,k)→t∈T.tA∧(T.tabs.lookup t).getD (0,0)=(l,k)∧S.abs.heap.TableAt cd t #[]∧S.abs.heap.IsCode cd t #[]:=
 (gB.ex h).elim fun c q=>(gB.ex (zaQ q.2).2).elim fun x z=>(zro z.1).elim fun o e=>(gB.ex z.2).elim fun X y=>(zqT (zaQ y.2).1).elim fun s k=>k.elim fun u es=>
  ⟨c,o,x.2,s,u,zoC q.1,zbo (zaQ q.2).1,e.1,e.2.2,es▸y.1,fun t l k et=>by subst et;exact zqx e (zaQ y.2).2⟩
def zst(x:Nat×FDat×List AV):Option (Arguments×FuncBody×Scope×Addr×Addr×List Bool):=(fn? S x.1).map fun f=>(f.params,f.body,f.scope,f.globals,f.builtins,[out T x.1,znL T S f.code x.2.1.tab,Option.casesOn (motive:=fun X=>Bool) (r? f.defaults) (decide (f.defaults = .none)&&x.2.2.isEmpty) fun a=>out T a&&gB (it? S a) fun y=>zoc x.2.2 y.1.toList])
noncomputable def zsv(x:Nat×FDat×List AV):Option (Arguments×FuncBody×Scope×Addr×Addr×List Bool):=some (x.2.1.params, .stmts x.2.1.body,x.2.1.scope,mainNs,0,[true,true,true])
def zsw(p:Program)(w:World):Cx:={prog:=p,w,B:=S.abs.heap,K:=zq6 S T.tA,tabs:=T.tA,tinfo:=fun t=>(T.tabs.lookup t).getD (0,0),G:=mainNs,os:=S.os}
end
section
variable {T:TabsL} {p:Program} {w:World} {S:SharedT}
theorem ztu{x:Nat×FDat×List AV}(h:zst T S x=zsv x):FnB (zsw T S p w) x.1 x.2.1 x.2.2:=(jE h).elim fun f q=>(znF q.1).elim fun o z=>by
 have e:=q.2
 have b:=congrArg (·.2.2.2.2.2) e
 refine ⟨zbo (congrArg (·.getD 0 true) b),o,f,z.1,z.2,congrArg (·.1) e,congrArg (·.2.1) e,congrArg (·.2.2.1) e,congrArg (·.2.2.2.1) e,congrArg (·.2.2.2.2.1) e,zfn (congrArg (·.getD 1 true) b),?_⟩
 have k:Option.casesOn (motive:=fun X=>Bool) (r? f.defaults) (decide (f.defaults = .none)&&x.2.2.isEmpty) (fun a=>out T a&&gB (it? S a) fun y=>zoc x.2.2 y.1.toList)=true:=congrArg (·.getD 2 true) b
 revert k
 induction er:r? f.defaults with
 | none=>exact fun k=> .inl ⟨oD (zaQ k).1,eI (zaQ k).2⟩
 | some a=>exact fun k=>(gB.ex (zaQ k).2).elim fun y u=>(znx u.1).elim fun o q=> .inr ⟨a,o,y.1,y.2,zoC er,zbo (zaQ k).1,q.1,q.2,zll u.2⟩
end
section
variable (T:TabsL) (S:SharedT)
def nsL:List Bool:=[S.abs.heap.isNs mainNs,S.abs.heap.isNs 0,S.abs.heap.isNs cStatics,out T mainNs,out T 0,out T cStatics,(S.abs.heap.nsMap cStatics "sys.recursionlimit").isNone,T.gl.all fun p=>gB (S.abs.heap.nsMap mainNs p.1) (zsg p.2),
 bltT.all fun p=>gB (S.abs.heap.nsMap 0 p.1) (zsg p.2)&&((T.gl.lookup p.1).isSome || (S.abs.heap.nsMap mainNs p.1).isNone),T.tA.all (bare S),(ob? S sysModules).isSome]
noncomputable def ztI(K:Frag)(C:Nat):List Bool:=[decide (findIn K (.ref C) "__getattribute__" =some (some (.builtin "object.__getattribute__"))),decide (findIn K (.ref C) "__setattr__" =some (some (.builtin "object.__setattr__"))),plainOver K C,(clsIn K C).any (·.hasDict),decide (findIn K (.ref C) "__getattr__" =some none)]
noncomputable def metL(K:Frag)(C:Nat)(m:Str×Nat):List Bool:=[decide (findIn K (.ref C) m.1=some (some (.ref m.2))),decide (specialIn K (.ref m.2) "__get__" =some (some (.builtin "function.__get__"))),decide (typeIn K (.ref m.2)=some (.type "function")),decide (takesIn K (.ref m.2)=some false),!copiedNames.contains m.1]
def zqQ(p:Nat×List Int):Bool:=out T p.1&&gB (ba? S p.1) fun x=>decide (x.1 = .type "set")&&gB (se? x.2) fun y=> [y.2.2.fits y.1.size,Nat.blt y.1.size scanBound,decide (y.1.toList.map (fun e=>(e.1,i? e.2))=p.2.map fun i=>(hashInt i,some i))].all id
def zrd(p:Nat×List (Int×List Nat)):Bool:=out T p.1&&decide (p.1≠sysModules)&&gB (ba? S p.1) fun x=>decide (x.1 = .type "dict")&&gB (di? x.2) fun y=>decide (y.1.toList.map (fun e=>(e.hash,i? e.key,(s? e.val).map fun s=>s.cps.toList))=p.2.map fun q=>(hashInt q.1,some q.1,some q.2))
def zuc(p:Nat×List Nat):Bool:=out T p.1&&gB (ba? S p.1) fun x=>decide (x.1 = .type "re.Pattern")&&gB (fl? x.2) fun v=>decide (i? (v.getD 6 .none)=some 0)&&gB (r? (v.getD 5 .none)) fun a=>out T a&&gB (it? S a) fun y=>
 let c:=(y.1.map reRawOf).map (·.toNat)
 [decide (c.toList=p.2),decide (c.getD 0 0=14),decide (c.getD 2 0=4)].all id
def stL:List Bool:=
 let K:=zq6 S T.tA
 [(nsL T S).all id,T.attrs.all fun p=>(ztI K p.1).all id&&p.2.all fun n=>decide (findIn K (.ref p.1) (strOf n)=some none),T.meth.all fun p=>((ztI K p.1).all id&&(makesIn K p.1&&keepIn K (.ref p.1)))&&p.2.all fun m=>(metL K p.1 m).all id,T.sets.all (zqQ T S),T.maps.all (zrd T S),T.rxs.all (zuc T S)]
end
theorem zfF{α:Type}{l:List α}{f:α→Bool}(h:l.all f=true){a:α}(m:a∈l):f a=true:=aT h a m
theorem zjH{α β:Type}[BEq α][LawfulBEq α]{l:List (α×List β)}{a:α}(h:(l.lookup a).getD []≠[]):∃x,(a,x)∈l:=by
 induction e:l.lookup a with
 | none=>exact absurd (congrArg (·.getD []) e) h
 | some x=>exact ⟨x,zal e⟩
theorem zgZ{α β:Type}[BEq α][LawfulBEq α]{l:List (α×List β)}{a:α}{b:β}(h:b∈(l.lookup a).getD []):∃x,(a,x)∈l∧b∈x:=by
 induction e:l.lookup a with
 | none=>exact (nomatch (e▸h:b∈(none:Option (List β)).getD []))
 | some x=>exact ⟨x,zal e,(e▸h:b∈(some x).getD [])⟩
section
variable {T:TabsL} {p:Program} {w:World} {S:SharedT}
theorem znN{K:Frag}{C:Nat}(h:(ztI K C).all id=true):findIn K (.ref C) "__getattribute__" =some (some (.builtin "object.__getattribute__"))∧findIn K (.ref C) "__setattr__" =some (some (.builtin "object.__setattr__"))∧plainOver K C=true∧(clsIn K C).any (·.hasDict)=true∧findIn K (.ref C) "__getattr__" =some none:=
 ⟨oD (zai 0 h),oD (zai 1 h),zai 2 h,zai 3 h,oD (zai 4 h)⟩
theorem zgX{C:Nat}{n:List Nat}{f:Nat}(h:zb3 T.to C n=some f):∃ms,(C,ms)∈T.meth∧(strOf n,f)∈ms:=(jE h).elim fun m q=>(zgZ (List.mem_of_find?_eq_some q.1)).imp fun X z=>⟨z.1,by
 have e:strOf n=m.1:=(congrArg strOf (eq_of_beq (List.find?_some (p:=fun m:Str×Nat=>m.1.cps.toList==n) q.1))).symm
 exact (Prod.ext e q.2.symm:(strOf n,f)=m)▸z.2⟩
theorem zqP{a:Nat}{is:List Int}(h:zqQ T S (a,is)=true):a∉T.tA∧∃n,S.abs.heap.SetOf (PySem.intKind p w) a (fun k=>is.contains k) n:=⟨zbo (zaQ h).1,(gB.ex (zaQ h).2).elim fun x q=>(gB.ex (zaQ q.2).2).elim fun y z=>by
 obtain ⟨cl,dt⟩:=x
 obtain ⟨es,ep,t⟩:=y
 obtain rfl:cl = .type "set" :=oD (zaQ q.2).1
 obtain rfl:dt = .set es ep t:=zqR z.1
 have q3:es.toList.map (fun e=>(e.1,i? e.2))=is.map fun i=>(hashInt i,some i):=oD (zai 2 z.2)
 have el:∀x∈es.toList,∃i u,i∈is∧x=(hashInt i, .int i u):=fun x hx=>(mP (q3▸mR ⟨x,hx,rfl⟩)).elim fun i e=>(zk9 (Prod.mk.inj e.2).2.symm).elim fun u eu=>⟨i,u,e.1,Prod.ext (Prod.mk.inj e.2).1.symm eu⟩
 refine ⟨es.size,_,es,ep,t,zfA q.1,⟨rfl,rfl,rfl⟩,rfl,fun x hx=>?_,fun k=>⟨fun hk=>?_,fun ⟨x,hx,hk⟩=>?_⟩,jL (zai 1 z.2),zai 0 z.2,rfl⟩
 ·obtain ⟨i,u,X,rfl⟩:=el x hx
  exact ⟨⟨i,(beq_self_eq_true i:(i==i)=true),rfl⟩,rfl⟩
 ·obtain ⟨x,hx,e⟩:=mP (q3▸mR ⟨k,List.contains_iff_mem.mp hk,rfl⟩:(hashInt k,some k)∈es.toList.map fun e=>(e.1,i? e.2))
  obtain ⟨u,eu⟩:=zk9 (Prod.mk.inj e).2
  exact ⟨x,hx,eu▸(beq_self_eq_true k:(k==k)=true)⟩
 ·obtain ⟨i,u,hi,rfl⟩:=el x hx
  exact (eq_of_beq (hk:(i==k)=true))▸List.contains_iff_mem.mpr hi⟩
def ztp(t:List (Int×List Nat))(v:Option Value)(i:Int):Prop:=match t.find? (fun e=>e.1==i) with | some e=>∃u,v=some (.str (strOf e.2) u) | none=>v=none
theorem zeg:∀{ds:List DictEntry} {t:List (Int×List Nat)},ds.map (fun e=>(e.hash,i? e.key,(s? e.val).map fun s=>s.cps.toList))=t.map (fun q=>(hashInt q.1,some q.1,some q.2))→
  (∀i,ztp t ((ds.find? fun e=>Value.isInt i e.key).map (·.val)) i)∧∀e∈ds,∃k u,e.key = .int k u∧e.hash=hashInt k
 | [], [],_=>⟨fun X=>rfl,fun X h=>nomatch h⟩
 | ⟨dh,dk,dv⟩ :: ds,(k,z) :: t,h=>by
  obtain ⟨h1,h2⟩:=List.cons.inj h
  obtain ⟨u,rfl⟩:=zk9 (congrArg (·.2.1) h1)
  obtain ⟨s,e1,e2⟩:=jE (congrArg (·.2.2) h1)
  obtain ⟨u',rfl⟩:=zqS e1
  obtain rfl:s.cps.toList=z:=e2
  refine ⟨fun i=>?_,fun e he=>(cP he).elim (fun q=>q▸⟨k,u,rfl,congrArg (·.1) h1⟩) ((zeg h2).2 e)⟩
  have ih:=(zeg h2).1 i
  unfold ztp at ih⊢
  rw [List.find?_cons,List.find?_cons,show Value.isInt i (.int k u)=(k==i) from rfl]
  induction k==i with
  | true=>exact ⟨u',rfl⟩
  | false=>exact ih
theorem ztd:Sre.ops[14]? = some .INFO:=by rfl
theorem zrc{a:Nat}{t:List (Int×List Nat)}(h:zrd T S (a,t)=true):a∉T.tA∧a≠sysModules∧(∃es k,S.abs.heap.get? a=some {cls:= .type "dict",data:= .dict es k})∧∃f,S.abs.heap.MapOf (PySem.intKind p w) a f∧∀i,ztp t (f i) i:=
 ⟨zbo (zaQ (zaQ h).1).1,oD (zaQ (zaQ h).1).2,(gB.ex (zaQ h).2).elim fun x q=>(gB.ex (zaQ q.2).2).elim fun y z=>by
 obtain ⟨cl,dt⟩:=x
 obtain ⟨es,ep⟩:=y
 obtain rfl:cl = .type "dict" :=oD (zaQ q.2).1
 obtain rfl:dt = .dict es ep:=zrC z.1
 have F:=zeg (oD z.2)
 refine ⟨⟨es,ep,zfA q.1⟩,fun i=>findBy Value.isInt es i,⟨_,es,ep,zfA q.1,⟨rfl,rfl,rfl⟩,rfl,fun x hx=>?_,fun X=>rfl⟩,fun i=>?_⟩
 ·obtain ⟨j,u,q1,q2⟩:=F.2 x (Array.mem_toList_iff.mpr hx)
  exact ⟨j,q1▸(beq_self_eq_true j:(j==j)=true),q2⟩
 ·have:=F.1 i
  unfold findBy
  rwa [Array.find?_toList] at this⟩
theorem zt4{a:Nat}{c:List Nat}(h:zuc T S (a,c)=true):a∉T.tA∧∃vs t items n o,S.abs.heap.get? a=some {cls:= .type "re.Pattern",data:= .fields vs}∧(∃u,vs.getD 6 .none = .int 0 u)∧vs.getD 5 .none = .ref t∧t∉T.tA∧S.abs.heap.get? t=some o∧o.data = .seq items n∧
  Sre.ops[((items.map reRawOf).map (·.toNat)).getD 0 0]? = some .INFO∧((items.map reRawOf).map (·.toNat)).getD 2 0=4∧(fun s:List Nat=>s.any (Mine.rxHit c.toArray))=fun s=>s.any (Mine.rxHit ((items.map reRawOf).map (·.toNat))):=
 ⟨zbo (zaQ h).1,(gB.ex (zaQ h).2).elim fun x q=>(gB.ex (zaQ q.2).2).elim fun v z=>(gB.ex (zaQ z.2).2).elim fun t u=>(gB.ex (zaQ u.2).2).elim fun y k=>(znx k.1).elim fun o e=>by
 obtain ⟨cl,dt⟩:=x
 obtain rfl:cl = .type "re.Pattern" :=oD (zaQ q.2).1
 obtain rfl:dt = .fields v:=zkj z.1
 exact ⟨v,t,y.1,y.2,o,zfA q.1,zk9 (oD (zaQ z.2).1),zoC u.1,zbo (zaQ u.2).1,e.1,e.2,by rw [oD (zai 1 k.2)];exact ztd,oD (zai 2 k.2),congrArg (fun l:List Nat=>fun s:List Nat=>s.any (Mine.rxHit l.toArray)) (oD (zai 0 k.2)).symm⟩⟩
theorem zol(h:(stL T S).all id=true)(hb:(fun st=>peek (zq6 S T.tA) st (builtinsFor mainNs 0))=fun X=>some 0)(hF:T.fns.map (zst T S)=T.fns.map zsv):Stat T.to (zsw T S p w) where
 gl:=⟨_,Heap.Ns.of_isNs (zai 0 (zai 0 h)),fun x v e=>(gB.ex (zfF (zai 7 (zai 0 h)) (zal e))).imp fun X q=>⟨q.1,zfJ q.2⟩,fun x e b=>(iE b).elim fun v e2=>(Bool.or_eq_true_iff.mp (zaQ (zfF (zai 8 (zai 0 h)) (zal e2))).2).elim (fun q=>(iE q).elim fun X z=>no (e.symm.trans z)) jN⟩
 bl:=⟨_,Heap.Ns.of_isNs (zai 1 (zai 0 h)),fun x v e=>(gB.ex (zaQ (zfF (zai 8 (zai 0 h)) (zal e))).1).imp fun X q=>⟨q.1,zfJ q.2⟩⟩
 gt:=zbo (zai 3 (zai 0 h))
 bt:=zbo (zai 4 (zai 0 h))
 st:=zbo (zai 5 (zai 0 h))
 lim:=⟨_,Heap.Ns.of_isNs (zai 2 (zai 0 h)),jN (zai 6 (zai 0 h))⟩
 bf:=fun M hh k=>Looks.of_peek (K:=zq6 S T.tA) (fun a o e=>k a o (zeq e).1 (zeq e).2) (congrFun hb _)
 fn:=fun a fd dflt e=>ztu (List.map_inj_left.mp hF (a,fd,dflt) (zal e))
 set_:=fun a is e=>zqP (zfF (zai 3 h) (zal e))
 inB:=fun a o e=>(zeq e).1
 tabs:=fun a o e=>(zeq e).2
 cls:=fun C hC=>hC.elim (fun q=>(zjH q).elim fun x m=>znN (zaQ (zfF (zai 1 h) m)).1) fun q=>(zjH q).elim fun x m=>znN (zaQ (zaQ (zfF (zai 2 h) m)).1).1
 attr:=fun C n q=>(zgZ q).elim fun x m=>oD (zfF (zaQ (zfF (zai 1 h) m.1)).2 m.2)
 meth:=fun C n f q=>(zgX q).elim fun x m=>
  have z:=zfF (zaQ (zfF (zai 2 h) m.1)).2 m.2
  ⟨oD (zai 0 z),oD (zai 1 z),oD (zai 2 z),oD (zai 3 z),(Bool.not_eq_true' _).mp (zai 4 z)⟩
 make:=fun C m q=>(zgX q).elim fun x m=>zaQ (zaQ (zaQ (zfF (zai 2 h) m.1)).1).2
theorem zqy(h:(stL T S).all id=true):Tbl T.to (zsw T S p w) where
 sys:=(iE (zai 10 (zai 0 h))).imp fun X=>zdA
 tab:=fun a t e=>zrc (zfF (zai 4 h) (zal e))
 rx:=fun a f e=>(jE e).elim fun c q=>q.2▸zt4 (zfF (zai 5 h) (zal q.1))
end
end
end Mn
end
section
open PySem PySem.W
set_option maxHeartbeats 0
namespace Mn
def zjV(S:SharedT):Option (Str×Str×List Bool):=(fn? S 400).map fun fd=>(fd.name,fd.qualname,[fd.closure.isEmpty,decide (fd.defaults = .none),decide (fd.kwdefaults = .none)])
noncomputable abbrev Seen3:=Bool×Option (Str×Str×List Bool)×(Setting→Option Addr)×List (Option (Arguments×FuncBody×Scope×Addr×Addr×List Bool))
def zou(S:SharedT):Seen3:=((stL T3r S).all id,zjV S,fun st=>peek (zq6 S T3r.tA) st (builtinsFor mainNs 0),T3r.fns.map (zst T3r S))
def zkb:Seen3:=(true,some ("law", "law",[true,true,true]),fun X=>some 0,T3r.fns.map zsv)
def pcOf(st:Option Stmt)(kvs:List (Int×Str)):Pc:=⟨(stP st).es,(exP (stP st).e).ks,(exP (stP st).e).vs,(exP (stP st).e).p,(stP st).p,kvs⟩
def kvs3:List (Int×Str):=(zh3 pw3 17).map fun q=>(q.1,strOf q.2)
def pc3:Pc:=pcOf (behindTheImports pw3)[16]? kvs3
def zuB(S0 S:SharedT):Bool×Seen3:=((zus pw3 S0.abs.heap S.abs.heap).all id,zou S)
def headG{γ:Type}(p:Program)(ok:Addr→Bool)(N i:Nat)(x:Pc)(k:SharedT→SharedT→γ)(w:World)(q:Pos):Option γ:=zrl (denote treeTable) p ok N i x k w q
def openG{γ:Type}(p:Program)(w:World)(N:Nat)(k:SharedT→γ):Option γ:=(zlK (denote treeTable) p w N).map k
def head3(w:World)(q:Pos):Option (Bool×Seen3):=headG pw3 (zlM 28 6) 100000 16 pc3 zuB w q
def open3(w:World):Option (Nat×Option Value×Bool×Nat):=openG pw3 w 100000 fun S0=>(S0.n,S0.abs.heap.nsMap mainGlobals "__annotations__",S0.abs.heap.isNs mainGlobals,S0.gens.size)
end Mn
lay_quick Mn.headG
lay_quick Mn.openG
namespace Mn
theorem zlL(w:World):open3 w=some (28,some (.ref 6),true,0):=by
 unfold open3
 rw [PySem.W.Fast.te7547173423337557763]
 kernel_rfl!
theorem zgd(b:Bool)(w:World)(q:Pos):head3 (w.withFollow "special-get-raises" b) q=some (true,zkb):=by
 unfold head3
 induction b
 ·rw [PySem.W.Fast.te16251508014339835220]
  kernel_rfl!
 ·rw [PySem.W.Fast.te16251508014339835220]
  kernel_rfl!
end Mn
end
section
open PySem PySem.W
namespace Mn
theorem zji{α:Type}(x:List α)(s c:Nat):((List.range c).map fun (k:Nat)=>((s:Int)+1*(k:Int)).toNat).filterMap (x[·]?)=(x.drop s).take c:=by
 induction c with
 | zero=>simp
 | succ c ih=>
  rw [List.range_succ,List.map_append,List.filterMap_append,ih,List.take_add_one,List.getElem?_drop]
  congr 1
  have e:((s:Int)+1*(c:Int)).toNat=s+c:=by lia
  simp only [List.map_cons,List.map_nil,List.filterMap_cons,List.filterMap_nil,e]
  induction x[s+c]? <;> rfl
theorem zbn{α:Type}(x:List α)(s e:Nat):(sliceRange (s:Int) (e:Int) 1).filterMap (x[·]?)=(x.drop s).take (e-s):=by
 unfold sliceRange
 have h1:(1:Int)>0:=by decide
 simp only [if_pos h1]
 by_cases h:(s:Int)<e
 ·rw [if_pos h]
  have:(((e:Int)-s+1-1)/1).toNat=e-s:=by lia
  rw [this]
  exact zji x s (e-s)
 ·rw [if_neg h]
  have:e-s=0:=by lia
  rw [this];simp
theorem zoQ(a:Nat):¬(a:Int)<0:=Int.not_lt.mpr (Int.natCast_nonneg a)
theorem zfp(a n:Nat):max 0 (min (a:Int) (n:Int))=((min a n:Nat):Int):=by
 have e:min (a:Int) (n:Int)=((min a n:Nat):Int):=(Nat.le_total a n).elim (fun h=>(Int.min_eq_left (Int.ofNat_le.mpr h)).trans (congrArg Nat.cast (Nat.min_eq_left h).symm)) fun h=>(Int.min_eq_right (Int.ofNat_le.mpr h)).trans (congrArg Nat.cast (Nat.min_eq_right h).symm)
 rw [e]
 exact Int.max_eq_right (Int.natCast_nonneg _)
theorem zlt{p q n:Nat}(h:p-q=n)(l:p≤n):q=0∧p=n∨n=0:=by
 obtain rfl:p=n:=Nat.le_antisymm l (h▸Nat.sub_le p q)
 cases p with
 | zero=>exact .inr rfl
 | succ p=>cases q with
  | zero=>exact .inl ⟨rfl,rfl⟩
  | succ q=>exact absurd (Nat.sub_le p q) (Nat.succ_sub_succ p q▸h▸Nat.not_succ_le_self p)
theorem zjh(s e:Nat):(sliceRange (s:Int) (e:Int) 1).length=e-s:=by
 unfold sliceRange
 have h1:(1:Int)>0:=by decide
 simp only [if_pos h1,List.length_map,List.length_range]
 by_cases h:(s:Int)<e
 ·rw [if_pos h];lia
 ·rw [if_neg h];lia
theorem zet{α:Type}(x:List α)(a:Nat):x.drop (min a x.length)=x.drop a:=by
 rcases Nat.le_total a x.length with h | h
 ·rw [Nat.min_eq_left h]
 ·rw [Nat.min_eq_right h,List.drop_of_length_le h,List.drop_length]
theorem zcF{α:Type}(x:List α)(a b:Nat):(x.drop a).take (min b x.length-min a x.length)=(x.drop a).take (b-a):=by
 rcases Nat.le_total a x.length with h | h
 ·rcases Nat.le_total b x.length with h2 | h2
  ·rw [Nat.min_eq_left h,Nat.min_eq_left h2]
  ·rw [Nat.min_eq_left h,Nat.min_eq_right h2,List.take_of_length_le (by simp),List.take_of_length_le (by simp;lia)]
 ·rw [List.drop_of_length_le h];simp
theorem zbj(x:List Nat)(a b:Nat):zao x (some (a:Int)) (some (b:Int)) none=(x.drop a).take (b-a):=by
 unfold zao Builtin.Str.strSliceIndices
 have h1:(1:Int)>0:=by decide
 have ha:=zoQ a
 have hb:=zoQ b
 have e1:=zfp a x.length
 have e2:=zfp b x.length
 simp only [Option.getD_none,if_pos h1,if_neg ha,if_neg hb,e1,e2]
 split
 ·rename_i h
  simp only [beq_self_eq_true,Bool.true_and,beq_iff_eq,zjh] at h
  have h3:=zlt h (Nat.min_le_right _ _)
  rcases h3 with ⟨h3,h4⟩ | h3
  ·have:=zcF x a b
   rw [h3,h4] at this
   rw [←this,←zet,h3];simp
  ·have:x = []:=List.length_eq_zero_iff.mp h3
   subst this;simp
 ·rw [zbn,zet,zcF]
theorem zeR(x:List Nat)(b:Nat):zao x none (some (b:Int)) none=x.take b:=by
 have:=zbj x 0 b
 rw [List.drop_zero] at this
 have e:x.take b=x.take (b-0):=rfl
 rw [e,←this]
 have h0:max 0 (min (0:Int) (x.length:Int))=0:=(zfp 0 x.length).trans (congrArg Nat.cast (Nat.zero_min _))
 have h1:(1:Int)>0:=by decide
 have h2:=zoQ 0
 unfold zao Builtin.Str.strSliceIndices
 simp only [Option.getD_none,if_pos h1,if_neg h2]
 have h3:max 0 (min ((0:Nat):Int) (x.length:Int))=0:=(zfp 0 x.length).trans (congrArg Nat.cast (Nat.zero_min _))
 rw [h3]
theorem zb2(x:List Nat)(a:Nat):zao x (some (a:Int)) none none=x.drop a:=by
 have h:=zbj x a x.length
 have e:(x.drop a).take (x.length-a)=x.drop a:=List.take_of_length_le (by simp)
 rw [e] at h
 rw [←h]
 unfold zao Builtin.Str.strSliceIndices
 have h1:(1:Int)>0:=by decide
 have h2:=zoQ x.length
 have h3:=(zfp x.length x.length).trans (congrArg Nat.cast (Nat.min_self _))
 simp only [Option.getD_none,if_pos h1,if_neg h2,h3]
theorem zdu{α:Type}(x:List α)(a b:Nat):zaF x (some (a:Int)) (some (b:Int)) none=(x.drop a).take (b-a):=by
 unfold zaF sliceBounds
 have h1:(1:Int)>0:=by decide
 have ha:=zoQ a
 have hb:=zoQ b
 have e1:=zfp a x.length
 have e2:=zfp b x.length
 simp only [Option.getD_none,if_pos h1,if_neg ha,if_neg hb,e1,e2]
 rw [zbn,zet,zcF]
theorem zfU{α:Type}(x:List α)(a:Nat):zaF x (some (a:Int)) none none=x.drop a:=by
 have h:=zdu x a x.length
 have e:(x.drop a).take (x.length-a)=x.drop a:=List.take_of_length_le (by simp)
 rw [e] at h
 rw [←h]
 unfold zaF sliceBounds
 have h1:(1:Int)>0:=by decide
 have h2:=zoQ x.length
 have h3:=(zfp x.length x.length).trans (congrArg Nat.cast (Nat.min_self _))
 simp only [Option.getD_none,if_pos h1,if_neg h2,h3]
noncomputable def zbr(n:Nat):List Int→Int
 | []=>0
 | d :: r=>d+2^n*zbr n r
theorem zd9(n:Nat):∀xs ys:List Int,zbr n (xs++ys)=zbr n xs+2^(n*xs.length)*zbr n ys
 | [],ys=>by simp [zbr]
 | x :: xs,ys=>by
  rw [List.cons_append,zbr,zd9 n xs ys,zbr,List.length_cons,Nat.mul_add,Nat.mul_one,Int.pow_add]
  generalize zbr n xs=a
  generalize zbr n ys=b
  generalize (2:Int)^n=c
  generalize (2:Int)^(n*xs.length)=d
  rw [Int.mul_add,Int.add_assoc,←Int.mul_assoc,Int.mul_comm c d]
theorem zdP(n M:Nat)(hn:1≤n):∀xs:List Int,(∀d∈xs,d.natAbs≤2^M)→(zbr n xs).natAbs+2^M≤2^M*2^(n*xs.length)
 | [],_=>by simp [zbr]
 | x :: xs,h=>by
  have h1:=h x mS
  have h2:=zdP n M hn xs fun d hd=>h d (mM _ hd)
  rw [zbr,List.length_cons,Nat.mul_add,Nat.mul_one,Nat.pow_add]
  have h3:(x+2^n*zbr n xs).natAbs≤x.natAbs+2^n*(zbr n xs).natAbs:=by
   refine lT (Int.natAbs_add_le _ _) ?_
   rw [Int.natAbs_mul,Int.natAbs_pow];exact rL _
  have h4:2≤2^n:=pR (by decide:1≤2) hn
  generalize (zbr n xs).natAbs=a at*
  generalize 2^(n*xs.length)=d at*
  generalize 2^n=c at*
  generalize 2^M=m at*
  have h5:c*a+c*m≤c*(m*d):=by rw [←Nat.mul_add];exact Nat.mul_le_mul_left _ h2
  have h6:2*m≤c*m:=Nat.mul_le_mul_right _ h4
  have h7:m*(d*c)=c*(m*d):=by rw [←Nat.mul_assoc,Nat.mul_comm]
  lia
theorem zax{x:Int}{k:Nat}(h:x.natAbs<2^k)(hk:k≤1000000):za3 x=true:=by
 unfold za3
 refine dT ?_
 rcases Nat.eq_zero_or_pos x.natAbs with h0 | h0
 ·rw [h0];decide
 ·exact lL ((Nat.log2_lt (by lia)).mpr h) hk
theorem zil{n M:Nat}(hn:1≤n){xs:List Int}(h:∀d∈xs,d.natAbs≤2^M)(hk:M+n*xs.length≤900000):za3 (zbr n xs)=true:=by
 have h1:=zdP n M hn xs h
 rw [←Nat.pow_add] at h1
 have h2:0<2^M:=Nat.pow_pos (by decide)
 exact zax (k:=M+n*xs.length+1) (by rw [Nat.pow_succ];lia) (by lia)
noncomputable def dig(n:Nat)(x:Nat):Nat→List Int
 | 0=> []
 | m+1=>(x%2^n:Nat) :: dig n (x/2^n) m
theorem zeu(n:Nat):∀(m x:Nat),(dig n x m).length=m
 | 0,_=>rfl
 | m+1,x=>by rw [dig,List.length_cons,zeu n m]
theorem zfl(n:Nat):∀(m k x:Nat),dig n x (m+k)=dig n (x%2^(n*m)) m++dig n (x/2^(n*m)) k
 | 0,k,x=>by simp [dig]
 | m+1,k,x=>by
  rw [Nat.add_right_comm,dig,zfl n m k,dig,List.cons_append]
  have e:2^(n*(m+1))=2^n*2^(n*m):=by rw [Nat.mul_add,Nat.mul_one,Nat.add_comm,Nat.pow_add]
  rw [e,Nat.mod_mul_right_mod,Nat.mod_mul_right_div_self,Nat.div_div_eq_div_mul]
theorem zkq{n x:Nat}(h:x<2^n):dig n x 1 = [(x:Int)]:=by
 rw [dig,dig,Nat.mod_eq_of_lt h]
theorem zhp(n:Nat):∀(m x:Nat),x<2^(n*m)→zbr n (dig n x m)=x
 | 0,x,h=>by simp at h;subst h;rfl
 | m+1,x,h=>by
  have h2:x/2^n<2^(n*m):=by
   rw [Nat.div_lt_iff_lt_mul (Nat.pow_pos (by decide)),←Nat.pow_add,Nat.add_comm]
   rwa [Nat.mul_add,Nat.mul_one,Nat.add_comm] at h
  rw [dig,zbr,zhp n m _ h2]
  have:=Nat.mod_add_div x (2^n)
  have e:((x%2^n+2^n*(x/2^n):Nat):Int)=x:=by rw [this]
  rw [←e];push_cast;rfl
theorem zcc(x y:Nat):Builtin.bitAnd (x:Int) (y:Int)=((x &&& y:Nat):Int):=by
 unfold Builtin.bitAnd
 rw [dT (Int.natCast_nonneg x),dT (Int.natCast_nonneg y)]
 rfl
theorem zfz(x y:Nat):Builtin.bitOr (x:Int) (y:Int)=((x ||| y:Nat):Int):=by
 unfold Builtin.bitOr Builtin.bitAnd
 have nx:Builtin.bitNot (x:Int) = -(x:Int)-1:=rfl
 have ny:Builtin.bitNot (y:Int) = -(y:Int)-1:=rfl
 rw [nx,ny,decide_eq_false (by lia:¬(0:Int)≤ -(x:Int)-1),decide_eq_false (by lia:¬(0:Int)≤ -(y:Int)-1)]
 dsimp only
 have n2:∀z:Int,Builtin.bitNot (Builtin.bitNot z)=z:=fun z=>by unfold Builtin.bitNot;lia
 have e1:(Builtin.bitNot (-(x:Int)-1)).toNat=x:=by unfold Builtin.bitNot;lia
 have e2:(Builtin.bitNot (-(y:Int)-1)).toNat=y:=by unfold Builtin.bitNot;lia
 rw [e1,e2,n2]
theorem zo5(x s:Nat):Builtin.bitXor (x:Int) (((x/2^s*2^s:Nat)):Int)=((x%2^s:Nat):Int):=by
 have hor:x ||| (x/2^s*2^s)=x:=by
  apply Nat.eq_of_testBit_eq
  intro i
  rw [Nat.testBit_or,Nat.testBit_mul_two_pow,Nat.testBit_div_two_pow]
  by_cases h:s≤i
  ·have:i-s+s=i:=Nat.sub_add_cancel h
   simp [h,this]
  ·simp [h]
 have hand:x &&& (x/2^s*2^s)=x/2^s*2^s:=by
  apply Nat.eq_of_testBit_eq
  intro i
  rw [Nat.testBit_and,Nat.testBit_mul_two_pow,Nat.testBit_div_two_pow]
  by_cases h:s≤i
  ·have:i-s+s=i:=Nat.sub_add_cancel h
   simp [h,this]
  ·simp [h]
 unfold Builtin.bitXor
 rw [zfz,zcc,hor,hand]
 have:=Nat.mod_add_div x (2^s)
 have e:x/2^s*2^s=2^s*(x/2^s):=Nat.mul_comm _ _
 lia
noncomputable def zch(zs:List Int)(L:Nat)(ds:List Int):List Int:=zs.take L++ds++zs.drop (L+ds.length)
theorem zlB{zs:List Int}{L:Nat}{ds:List Int}(h:L+ds.length≤zs.length):(zch zs L ds).length=zs.length:=by
 unfold zch;simp only [List.length_append,List.length_take,List.length_drop];lia
theorem zj2{zs:List Int}{L:Nat}{d e:List Int}(h:L+d.length+e.length≤zs.length):zch (zch zs L d) (L+d.length) e=zch zs L (d++e):=by
 unfold zch
 have le:L≤zs.length:=lT (lT (Nat.le_add_right ..) (Nat.le_add_right ..)) h
 have e1:(zs.take L++d).length=L+d.length:=by rw [List.length_append,List.length_take,Nat.min_eq_left le]
 rw [List.take_append_of_le_length (Nat.le_of_eq e1.symm),List.take_of_length_le (Nat.le_of_eq e1),List.drop_append,List.drop_of_length_le (lT (Nat.le_of_eq e1) (Nat.le_add_right ..):(zs.take L++d).length≤L+d.length+e.length),e1,List.nil_append,List.drop_drop,List.length_append]
 have e2:L+d.length+(L+d.length+e.length-(L+d.length))=L+(d.length+e.length):=by rw [Nat.add_sub_cancel_left,Nat.add_assoc]
 rw [e2,List.append_assoc,List.append_assoc,List.append_assoc,List.append_assoc]
theorem zlA{zs:List Int}{L:Nat}{d:Int}(h:L<zs.length):zs.set L d=zch zs L [d]:=by
 unfold zch
 rw [List.set_eq_take_append_cons_drop,if_pos h,List.append_assoc];rfl
theorem zlC{zs ds:List Int}(h:ds.length=zs.length):zch zs 0 ds=ds:=by
 unfold zch;simp [h]
theorem zd5{x y:Int}(h:y.natAbs<2^64):Builtin.divisionGoesByPylong x y=false:=by
 unfold Builtin.divisionGoesByPylong
 dsimp only
 have h1:(if (y==0)=true then 0 else y.natAbs.log2/30+1)≤3:=by
  split
  ·decide
  ·rcases Nat.eq_zero_or_pos y.natAbs with h0 | h0
   ·rw [h0];decide
   ·exact Nat.succ_le_succ (lT (Nat.div_le_div_right (Nat.le_of_lt_succ ((Nat.log2_lt (Nat.ne_of_gt h0)).mpr h))) (by decide:63/30≤2))
 have h2:decide ((if (y==0)=true then 0 else y.natAbs.log2/30+1)>300)=false:=decide_eq_false (Nat.not_lt.mpr (lT h1 (by decide)))
 rw [h2];rfl
noncomputable def zaC(x:Nat):Nat:=if x=0 then 0 else x.log2+1
theorem zbl(x:Nat):zas (x:Int)=(zaC x:Int):=by
 unfold zas zaC
 by_cases h:x=0
 ·subst h;rfl
 ·rw [if_neg h,if_neg (by lia),Int.natAbs_natCast];push_cast;rfl
theorem zdf(x:Nat):x<2^zaC x:=by
 unfold zaC
 by_cases h:x=0
 ·subst h;decide
 ·rw [if_neg h];exact Nat.lt_log2_self
theorem zeC{x k:Nat}(h:x<2^k):zaC x≤k:=by
 unfold zaC
 by_cases h0:x=0
 ·rw [if_pos h0];lia
 ·rw [if_neg h0];exact (Nat.log2_lt h0).mpr h
theorem zi7{x:Nat}(h:0<x):2^(zaC x-1)≤x:=by
 unfold zaC
 rw [if_neg (by lia),Nat.add_sub_cancel]
 exact Nat.log2_self_le (by lia)
theorem zdl(k:Nat):(List.replicate k [AV.int 0]).flatten=(List.replicate k (0:Int)).map AV.int:=by
 induction k with
 | zero=>rfl
 | succ k ih=>rw [List.replicate_succ,List.flatten_cons,ih,List.replicate_succ];rfl
def zcR(w x:Nat):Nat:=(zaC x+w-1)/w
theorem zg6{w x:Nat}(hw:1≤w):x<2^(w*zcR w x):=by
 refine lL (zdf x) (pR (by decide) ?_)
 unfold zcR
 have:=Nat.lt_mul_div_succ (zaC x+w-1) (by omega:0<w)
 rw [Nat.mul_add] at this
 omega
theorem zjI{w x:Nat}:w*zcR w x≤zaC x+w:=by
 unfold zcR
 have:=Nat.mul_div_le (zaC x+w-1) w
 omega
theorem divU{A b:Nat}{q r:Int}(h:q*b+r=A)(h0:0≤r)(h1:r<b):q=((A/b:Nat):Int)∧r=((A%b:Nat):Int):=by
 have:=(Int.ediv_emod_unique (a:=(A:Int)) (b:=(b:Int)) (q:=q) (r:=r) (by lia)).mpr ⟨by rw [Int.mul_comm] at h;lia,h0,h1⟩
 rw [Int.natCast_ediv,Int.natCast_emod]
 exact ⟨this.1.symm,this.2.symm⟩
theorem zb8(x s:Nat):(x:Int).fdiv (2^(s:Int).toNat)=((x/2^s:Nat):Int):=by
 rw [Int.toNat_natCast,Int.fdiv_eq_ediv_of_nonneg _ (Int.pow_nonneg (by decide))];push_cast;rfl
theorem zbu(x s:Nat):(x:Int)*2^(s:Int).toNat=((x*2^s:Nat):Int):=by
 rw [Int.toNat_natCast];push_cast;rfl
theorem zlY(x h:Nat):Builtin.bitAnd (x:Int) ((2^h-1:Nat):Int)=((x%2^h:Nat):Int):=by
 rw [zcc,Nat.and_two_pow_sub_one_eq_mod]
theorem zgL{y h:Nat}(x:Nat)(hy:y<2^h):Builtin.bitOr ((x*2^h:Nat):Int) (y:Int)=((x*2^h+y:Nat):Int):=by
 rw [zfz,Nat.mul_comm,←Nat.two_pow_add_eq_or_of_lt hy]
theorem zmw{a b n:Nat}(hb:2^(n-1)≤b)(hn:0<n)(ha:(zaC a:Int)-n≤4000):Builtin.divisionGoesByPylong (a:Int) (b:Int)=false:=by
 unfold Builtin.divisionGoesByPylong
 dsimp only
 have hb0:b≠0:=by have:=Nat.pow_pos (n:=n-1) (by decide:0<2);lia
 have hb1:((b:Int)==0)=false:=by simpa using hb0
 have lb:n-1≤b.log2:=(Nat.le_log2 hb0).mpr hb
 have lb':(if ((b:Int)==0)=true then 0 else (b:Int).natAbs.log2/30+1)=b.log2/30+1:=by
  rw [hb1];simp
 have la:(if ((a:Int)==0)=true then 0 else (a:Int).natAbs.log2/30+1)≤b.log2/30+1+150:=by
  split
  ·lia
  ·rename_i q
   have ha0:a≠0:=by simpa using q
   have e:zaC a=a.log2+1:=by unfold zaC;rw [if_neg ha0]
   rw [Int.natAbs_natCast]
   lia
 refine Bool.and_eq_false_iff.mpr (.inr (decide_eq_false ?_))
 rw [lb']
 lia
theorem zhl(a b:Nat):(a:Int).fdiv b=((a/b:Nat):Int):=by
 rw [Int.fdiv_eq_ediv_of_nonneg _ (Int.natCast_nonneg b),Int.natCast_ediv]
theorem zhj(a b:Nat):(a:Int).fmod b=((a%b:Nat):Int):=by
 rw [Int.fmod_eq_emod_of_nonneg _ (Int.natCast_nonneg b),Int.natCast_emod]
theorem zko(a b h:Nat):a/2^h/b*2^h+(a/2^h%b*2^h+a%2^h)/b=a/b∧(a/2^h%b*2^h+a%2^h)%b=a%b:=by
 have e1:=Nat.div_add_mod a (2^h)
 have e2:=Nat.div_add_mod (a/2^h) b
 have e3:a=a/2^h%b*2^h+a%2^h+b*(a/2^h/b*2^h):=by
  have:2^h*(a/2^h)=b*(a/2^h/b*2^h)+a/2^h%b*2^h:=by
   rw [←Nat.mul_assoc,←Nat.add_mul,e2,Nat.mul_comm]
  lia
 rcases Nat.eq_zero_or_pos b with rfl | hb
 ·refine ⟨by simp,?_⟩
  rw [Nat.mod_zero,Nat.mod_zero,Nat.mod_zero,Nat.mul_comm];exact e1
 ·constructor
  ·conv=>rhs;rw [e3]
   rw [Nat.add_mul_div_left _ _ hb,Nat.add_comm]
  ·conv=>rhs;rw [e3]
   rw [Nat.add_mul_mod_self_left]
theorem zgB(a h:Nat):a/2^(h+h)*2^h+a/2^h%2^h=a/2^h:=by
 rw [Nat.pow_add,←Nat.div_div_eq_div_mul,Nat.mul_comm]
 exact Nat.div_add_mod (a/2^h) (2^h)
section
variable {P:PM T3} {h:Hp} {K:AV→Hp→Prop}
noncomputable def b1L:List Int:=(T3.intSet 145).getD []
def fd(i:Nat):FDat:=zah pw3 i none
def zmp(c:Nat):Bool:=b1L.contains (c:Int)
def w16(P:PM T3)(c:Nat):Wt:=pW P (fd 16,[]) [.str [c]] (.bool (zmp c))
theorem c_b1(B:Tbl T3 P.c)(c:Nat)(k:K (.bool (zmp c)) h):za6 P.up (.glob 155) [.str [c]] [] h K:=
 zc2 B (.asIs (.fin (p:=AV.bool (zmp c) = .bool (zmp c)) rfl):Sm P (w16 P c)) k
noncomputable def b3T:List (Int×List Nat):=(T3.intTab 156).getD []
def zfe(c:Nat):List Nat:=Option.casesOn (motive:=fun X=>List Nat) (b3T.find? fun e=>e.1==(c:Int)) (zag [c]) fun e=>e.2
noncomputable def w18(P:PM T3)(c:Nat)(s:List Nat):Wt:=pW P (fd 18,[]) [.str [c]] (.str s)
theorem c_b3(B:Tbl T3 P.c)(c:Nat)(hl:Nat.ble (zag [c]).length sizeL=true)(k:K (.str (zfe c)) h):za6 P.up (.glob 201) [.str [c]] [] h K:=by
 refine zc2 B (?_:Sm P (w18 P c (zfe c))) k
 unfold zfe
 induction e:b3T.find? (fun e=>e.1==(c:Int)) with
 | none=>exact .st .o e (.ff (.st .o hl (.asIs (.fin (p:=AV.str (zag [c]) = .str (zag [c])) rfl))))
 | some p=>exact .st (.en p.1 p.2) e (.tt (.asIs (.fin (p:=AV.str p.2 = .str p.2) rfl)))
end
section
variable {P:PM T3} {h:Hp} {K:AV→Hp→Prop}
theorem zaA:∀l:List (List Nat),zaB [] l=l.flatten
 | []=>rfl
 | [x]=>(List.append_nil x).symm
 | x :: y :: l=>by rw [zaB,zaA (y :: l),List.append_nil];rfl;exact nofun
def ze8(c:Nat):List Nat:=bif zmp c then [] else zfe c
def zg0(c:Nat):Option AV:=bif zmp c then none else some (.str (zfe c))
def okP(c:Nat):Prop:=(zag [c]).length≤sizeL∧(ze8 c).length≤8
theorem zeW:∀z:List Nat,(∀c∈z,okP c)→∃ss:List (List Nat),z.filterMap zg0=ss.map .str∧zaB [] ss=z.flatMap ze8∧(ss.map List.length).sum≤8*z.length
 | [],_=>⟨[],rfl,rfl,rL _⟩
 | c :: z,h=>by
  obtain ⟨ss,e1,e2,e3⟩:=zeW z fun c q=>h c (mM _ q)
  have k:=(h c mS).2
  rw [zaA] at e2
  rw [List.flatMap_cons,←e2,List.filterMap_cons]
  unfold zg0 ze8 at*
  induction q:zmp c with
  | true=>exact ⟨ss,e1,zaA _,by rw [List.length_cons];lia⟩
  | false=>
   rw [q] at k
   refine ⟨zfe c :: ss,by rw [List.map_cons,←e1];rfl,zaA _,?_⟩
   rw [List.map_cons,List.sum_cons,List.length_cons]
   have k:(zfe c).length≤8:=k
   lia
noncomputable def H27(z:List Nat)(acc:List AV)(k:Nat):Hp:= .of [.frame [("typed", .str z)], .siter z k, .list false acc, .frame []]
def w27(P:PM T3)(z:List Nat):Wt:=pW P (fd 27,[]) [.str z] (.str (z.flatMap ze8))
theorem zkI(B:Tbl T3 P.c)(z:List Nat)(hz:z.length<10000)(hs:∀c∈z,okP c)(k:K (.str (z.flatMap ze8)) h):za6 P.up.up (.glob 361) [.str z] [] h K:=by
 refine zc2 B (?_:Sm P.up (w27 P.up z)) k
 refine .loopM B 4 (za2 (z:=z)) (H27 z) (Fm zg0 z) [] .ct rfl (fun X X X=>⟨by kernel_rfl,by kernel_rfl⟩) ?_ ?_
 ·intro acc k c e r
  refine .callP (c_b1 B c) ?_
  induction q:zmp c with
  | true=>exact .ff (.next 4 (H27 z) (Fm zg0 z) k acc (.to 3 []) (r.no e (by rw [zg0,q];rfl)))
  | false=>exact .tt (.callP (c_b3 B c (bt (hs c (mG e)).1)) (.asIs (.st .o (an (r.len (n:=sizeL) (Nat.lt_trans hz (by decide))) (rfl:(false || true)=true)) (.next 4 (H27 z) (Fm zg0 z) k (acc ++ [.str (zfe c)]) (.to 3 []) (r.one e (by rw [zg0,q];rfl))))))
 ·intro acc r
  obtain ⟨ss,e1,e2,e3⟩:=zeW z hs
  exact .asIs (.st (.ls ss) (r.all.trans e1) (.st .o (bt (b:=sizeL) (lT e3 (lT (Nat.mul_le_mul_left 8 (lO hz)) (by decide)))) (.asIs (.fin (congrArg AV.str e2)))))
end
section
variable {P:PM T3} {h:Hp} {K:AV→Hp→Prop}
def esc(all:Bool)(set:List Nat)(c:Nat):List Nat:=bif all || decide (c∈set) then [92,c] else [c]
def zii(all:Bool)(set:List Nat)(c:Nat):AV:= .str (esc all set c)
theorem zpo(all:Bool)(set:List Nat)(c:Nat):(esc all set c).length≤2:=by unfold esc;induction all || decide (c∈set) <;> simp
theorem zcB(all:Bool)(set w:List Nat):w.map (zii all set)=(w.map (esc all set)).map .str∧zaB [] (w.map (esc all set))=w.flatMap (esc all set)∧((w.map (esc all set)).map List.length).sum≤2*w.length:=by
 refine ⟨by rw [List.map_map];rfl,by rw [zaA,List.flatMap_def],?_⟩
 induction w with
 | nil=>exact rL _
 | cons c w ih=>have:=zpo all set c;simp only [List.map_cons,List.sum_cons,List.length_cons];lia
theorem zhk(all:Bool)(set w:List Nat):(w.flatMap (esc all set)).length≤2*w.length:=by
 rw [List.flatMap_def,List.length_flatten];exact (zcB all set w).2.2
theorem zmy{all:Bool}{set:List Nat}{c:Nat}(h:(all || decide (c∈set))=true):zii all set c = .str [92,c]:=by unfold zii esc;rw [h];rfl
theorem zrp{all:Bool}{set:List Nat}{c:Nat}(h:(all || decide (c∈set))=false):zii all set c = .str [c]:=by unfold zii esc;rw [h];rfl
noncomputable def q03(way:Int):Bool:=[0,3].any (· == way)
def wrQ(way:Int)(w white:List Nat):List Nat:=white ++ [34]++w.flatMap (esc (way==3) [34,92]) ++ [34]
def wrB(way:Int)(w white:List Nat):List Nat:=w.flatMap (esc (way==1) [92,32,9])++white
def wr(way:Int)(w white:List Nat):List Nat:=bif q03 way then wrQ way w white else (bif way==2&&w.head? == some 34 then [92] else [])++wrB way w white
noncomputable def H28(way:Int)(w white:List Nat)(acc:List AV)(k:Nat):Hp:= .of [.frame [("white", .str white),("word", .str w)], .cell (some (.int way)), .siter w k, .list false acc, .frame []]
noncomputable def w28(P:PM T3)(w:List Nat)(way:Int)(white r:List Nat):Wt:=pW P (fd 28,[]) [.str w, .int way, .str white] (.str r)
set_option maxHeartbeats 1000000
theorem zft(B:Tbl T3 P.c)(w white:List Nat)(way:Int)(hl:w.length≤1000)(hl2:white.length≤1000)(hne:w≠[])(k:K (.str (wr way w white)) h):za6 P.up (.glob 366) [.str w, .int way, .str white] [] h K:=by
 refine zc2 B (?_:Sm P (w28 P w way white (wr way w white))) k
 have l0:w.length<sizeL:=lE hl (by decide)
 have lj:∀all set,((w.map (esc all set)).map List.length).sum≤2000:=fun all set=>lT (zcB all set w).2.2 (Nat.mul_le_mul_left 2 hl)
 have lf:∀all set,(w.flatMap (esc all set)).length≤2000:=fun all set=>lT (zhk all set w) (Nat.mul_le_mul_left 2 hl)
 refine (let ww:Wt:=_;(?_:Sm _ ww))
 refine .rf (.li [0,3]) [AV.int 0, .int 3] ?_
 induction q:q03 way with
 | true=>
  refine .st (.b true) q (.st .o (bt (b:=sizeL) (?_:white.length + [34].length≤sizeL)) ?_)
  ·exact lT (Nat.add_le_add_right hl2 _) (by decide)
  refine .loopM B 5 (za2 (z:=w)) (H28 way w white) (Mp1 (zii (way==3) [34,92]) w) [] .ct rfl (fun X X X=>⟨by kernel_rfl,by kernel_rfl⟩) ?_ ?_
  ·intro acc k c e r
   have nx:=r.next e
   have z:=an (r.len (n:=sizeL) l0) (rfl:(false || true)=true)
   rcases fT ((way==3)) with q1 | q1
   ·refine .st (.b true) q1 (.tt (.ok (.asIs (.st .o z (.next 5 (H28 way w white) (Mp1 (zii (way==3) [34,92]) w) k (acc ++ [.str [92,c]]) (.to 4 []) ?_)))))
    rw [zmy (by rw [q1];rfl)] at nx;exact nx
   ·refine .st (.b false) q1 ?_
    rcases fT (decide (c∈ [34,92])) with q2 | q2
    ·refine .st (.b true) q2 (.tt (.ok (.asIs (.st .o z (.next 5 (H28 way w white) (Mp1 (zii (way==3) [34,92]) w) k (acc ++ [.str [92,c]]) (.to 4 []) ?_)))))
     rw [zmy (by rw [q1,q2];rfl)] at nx;exact nx
    ·refine .st (.b false) q2 (.ff (.asIs (.st .o z (.next 5 (H28 way w white) (Mp1 (zii (way==3) [34,92]) w) k (acc ++ [.str [c]]) (.to 4 []) ?_))))
     rw [zrp (by rw [q1,q2];rfl)] at nx;exact nx
  ·intro acc r
   have ej:=zcB (way==3) [34,92] w
   have f1:=lf (way==3) [34,92]
   refine (let ww:Wt:=_;(?_:Sm _ ww))
   refine .asIs (.st (.ls (w.map (esc (way==3) [34,92]))) (r.all.trans ej.1) (.st .o (bt (b:=sizeL) (lT (lj (way==3) [34,92]) (by decide))) ?_))
   have j0:=ej.2.1
   refine (let ww:Wt:=_;(?_:Sm _ ww))
   refine .st .o (bt (b:=sizeL) (?_:(white ++ [34]).length+(zaB [] (w.map (esc (way==3) [34,92]))).length≤sizeL)) (.st .o (bt (b:=sizeL) (?_:(white ++ [34]++zaB [] (w.map (esc (way==3) [34,92]))).length + [34].length≤sizeL)) (.asIs (.fin (congrArg AV.str (?_:white ++ [34]++zaB [] (w.map (esc (way==3) [34,92])) ++ [34]=wr way w white)))))
   ·rw [j0,List.length_append];exact lT (jD (jD hl2 (rL 1)) (lf _ _)) (by decide)
   ·rw [j0,List.length_append,List.length_append];exact lT (jD (jD (jD hl2 (rL 1)) (lf _ _)) (rL 1)) (by decide)
   ·rw [j0];unfold wr;rw [q];rfl
 | false=>
  refine .st (.b false) q ?_
  refine .loopM B 5 (za2 (z:=w)) (H28 way w white) (Mp1 (zii (way==1) [92,32,9]) w) [] .ct rfl (fun X X X=>⟨by kernel_rfl,by kernel_rfl⟩) ?_ ?_
  ·intro acc k c e r
   have nx:=r.next e
   have z:=an (r.len (n:=sizeL) l0) (rfl:(false || true)=true)
   rcases fT ((way==1)) with q1 | q1
   ·refine .st (.b true) q1 (.tt (.ok (.asIs (.st .o z (.next 5 (H28 way w white) (Mp1 (zii (way==1) [92,32,9]) w) k (acc ++ [.str [92,c]]) (.to 4 []) ?_)))))
    rw [zmy (by rw [q1];rfl)] at nx;exact nx
   ·refine .st (.b false) q1 ?_
    rcases fT (decide (c∈ [92,32,9])) with q2 | q2
    ·refine .st (.b true) q2 (.tt (.ok (.asIs (.st .o z (.next 5 (H28 way w white) (Mp1 (zii (way==1) [92,32,9]) w) k (acc ++ [.str [92,c]]) (.to 4 []) ?_)))))
     rw [zmy (by rw [q1,q2];rfl)] at nx;exact nx
    ·refine .st (.b false) q2 (.ff (.asIs (.st .o z (.next 5 (H28 way w white) (Mp1 (zii (way==1) [92,32,9]) w) k (acc ++ [.str [c]]) (.to 4 []) ?_))))
     rw [zrp (by rw [q1,q2];rfl)] at nx;exact nx
  ·intro acc r
   have ej:=zcB (way==1) [92,32,9] w
   have f1:=lf (way==1) [92,32,9]
   refine (let ww:Wt:=_;(?_:Sm _ ww))
   refine .asIs (.st (.ls (w.map (esc (way==1) [92,32,9]))) (r.all.trans ej.1) (.st .o (bt (b:=sizeL) (lT (lj (way==1) [92,32,9]) (by decide))) ?_))
   have j0:=ej.2.1
   induction q2:way==2 with
   | false=>
    refine (let ww:Wt:=_;(?_:Sm _ ww))
    refine .st (.b false) q2 (.ff (.st .o (bt (b:=sizeL) (?_:(zaB [] (w.map (esc (way==1) [92,32,9]))).length+white.length≤sizeL)) (.asIs (.fin (congrArg AV.str (?_:zaB [] (w.map (esc (way==1) [92,32,9]))++white=wr way w white))))))
    ·rw [j0];exact lT (jD (lf _ _) hl2) (by decide)
    ·rw [j0];unfold wr;rw [q,q2];rfl
   | true=>
    obtain ⟨c0,w',rfl⟩:=List.exists_cons_of_ne_nil hne
    refine (let ww:Wt:=_;(?_:Sm _ ww))
    refine .st (.b true) q2 (.st (.n c0) (zaT (i:=0) rfl (bt (lO l0))) ?_)
    induction q3: [c0] == [34] with
    | false=>
     refine (let ww:Wt:=_;(?_:Sm _ ww))
     refine .st (.b false) q3 (.ff (.st .o (bt (b:=sizeL) (?_:(zaB [] ((c0 :: w').map (esc (way==1) [92,32,9]))).length+white.length≤sizeL)) (.asIs (.fin (congrArg AV.str (?_:zaB [] ((c0 :: w').map (esc (way==1) [92,32,9]))++white=wr way (c0 :: w') white))))))
     ·rw [j0];exact lT (jD (lf _ _) hl2) (by decide)
     ·rw [j0];unfold wr;rw [q,q2,show ((c0 :: w').head? == some 34)=false by simpa using q3];rfl
    | true=>
     refine .st (.b true) q3 (.tt (.st .o (bt (b:=sizeL) (?_: [92].length+(zaB [] ((c0 :: w').map (esc (way==1) [92,32,9]))).length≤sizeL)) (.st .o (bt (b:=sizeL) (?_:([92]++zaB [] ((c0 :: w').map (esc (way==1) [92,32,9]))).length+white.length≤sizeL)) (.asIs (.fin (congrArg AV.str (?_: [92]++zaB [] ((c0 :: w').map (esc (way==1) [92,32,9]))++white=wr way (c0 :: w') white)))))))
     ·rw [j0];exact lT (jD (rL 1) (lf _ _)) (by decide)
     ·rw [j0,List.length_append];exact lT (jD (jD (rL 1) (lf _ _)) hl2) (by decide)
     ·rw [j0];unfold wr;rw [q,q2,show ((c0 :: w').head? == some 34)=true by simpa using q3,List.append_assoc];rfl
end
section
variable {P:PM T3} {h:Hp} {K:AV→Hp→Prop}
def fdH(j:Nat):FDat:=ziC pw3 24 j
noncomputable def hk:List Nat:=[95,104,101,97,100,101,114,115]
noncomputable def pA(p:List Nat×List Nat):AV:= .tup [.str p.1, .str p.2]
noncomputable def hO(xs:List AV):List AO:=[.inst 345 1, .dict true [(hk, .ref 2)], .list false xs]
def w240(P:PM T3):Wt:=dW P (fdH 0,[.none]) [.ref 1] [] [.dict true [], .inst 345 0] .none [.dict true [(hk, .ref 2)], .inst 345 0, .list false []]
theorem zkJ(B:Tbl T3 P.c):za6 P.up (.glob 239) [.ref 1] [] (Hp.of [.dict true [], .inst 345 0]) (DK .none [.dict true [(hk, .ref 2)], .inst 345 0, .list false []]):=by
 refine zb0 B (.ff (.tt (.ff (.tt ?_))):Sm P (w240 P))
 exact .loop (xs:= []) B 5 (zam (q:=(false, [])) (v:= .ref 3)) (fun (_:Unit) k=> .of [.dict true [(hk, .ref 3)], .inst 345 0, .frame [], .list false [], .liter (.ref 3) k]) (fun X X=>True) () (.to 2 []) trivial (fun X X X=>⟨by kernel_rfl,by kernel_rfl,by kernel_rfl⟩) (fun X X X e=>no e) fun X X=> .endD 2 .none [.dict true [(hk, .ref 2)], .inst 345 0, .list false []] [0,1,3]
noncomputable def rxB(b:Bool)(s:List Nat):Bool:=((T3.rx (cond b 211 216)).getD fun X=>true) s
def w241(P:PM T3)(xs:List AV)(s:List Nat)(b:Bool):Wt:=dW P (fdH 1,[]) [.ref 0, .str s] [("name", .bool b)] (hO xs) (.str s) (hO xs)
theorem zdU(B:Tbl T3 P.c)(xs:List AV)(s:List Nat)(b:Bool)(hr:rxB b s=false)(hs:s.length≤sizeL):za6 P.up (.glob 246) [.ref 0, .str s] [("name", .bool b)] (Hp.of (hO xs)) (DK (.str s) (hO xs)):=by
 refine zb0 B (?_:Sm P (w241 P xs s b))
 induction b with
 | true=>exact .tt (.tt (.st .o (an (by rw [hr];rfl) (bt hs):(!rxB true s&&Nat.ble s.length sizeL)=true) (.ff (.asIs (.endD 3 (.str s) (hO xs) [0,1,2])))))
 | false=>exact .tt (.ff (.st .o (an (by rw [hr];rfl) (bt hs):(!rxB false s&&Nat.ble s.length sizeL)=true) (.ff (.asIs (.endD 3 (.str s) (hO xs) [0,1,2])))))
def zaD(s:List Nat)(p:List Nat×List Nat):Bool:=zag p.1==zag s
def okN(s:List Nat):Prop:=s.length≤sizeL∧(zag s).length≤sizeL∧rxB true s=false∧rxB true (zag s)=false
def okV(s:List Nat):Prop:=s.length≤100000∧rxB false s=false
def okH(ps:List (List Nat×List Nat)):Prop:=(∀p∈ps,(zag p.1).length≤sizeL)∧ps.length<80000
def zpW(s:List Nat)(p:List Nat×List Nat):Option AV:=bif zaD s p then some (.str p.2) else none
def znV(ps:List (List Nat×List Nat))(s:List Nat):List SV:=(ps.filter (zaD s)).map fun p=> .str p.2
theorem zgo(s:List Nat):∀ps:List (List Nat×List Nat),ps.filterMap (zpW s)=(znV ps s).map SV.av
 | []=>rfl
 | p :: ps=>by
  unfold znV zpW
  rw [List.filterMap_cons,List.filter_cons]
  induction zaD s p with
  | true=>exact congrArg (AV.str p.2 :: ·) (zgo s ps)
  | false=>exact zgo s ps
def zu9(ps:List (List Nat×List Nat))(s:List Nat)(acc:List AV)(k:Nat):Hp:= .of [.inst 345 1, .dict true [(hk, .ref 2)], .list false (ps.map pA), .frame [("self", .ref 0)], .cell (some (.str (zag s))), .liter (.ref 2) k, .list false acc, .frame []]
def w247(P:PM T3)(ps:List (List Nat×List Nat))(s:List Nat):Wt:=dW P (fdH 7,[]) [.ref 0, .str s] [] (hO (ps.map pA)) (.lst (znV ps s)) (hO (ps.map pA))
theorem zkK(B:Tbl T3 P.c)(ps:List (List Nat×List Nat))(s:List Nat)(hs:okN s)(hp:okH ps):za6 P.up.up (.glob 284) [.ref 0, .str s] [] (Hp.of (hO (ps.map pA))) (DK (.lst (znV ps s)) (hO (ps.map pA))):=by
 refine zb0 B (?_:Sm P.up (w247 P.up ps s))
 refine .st .o (bt (b:=sizeL) hs.2.1) (.callD (zdU B (ps.map pA) (zag s) true hs.2.2.2 hs.2.1) [0,1,2] ?_)
 refine .loopM B 8 (zam (q:=(false,ps.map pA)) (v:= .ref 2)) (zu9 ps s) (Fm (zpW s) ps) [] (.to 3 [("self", .ref 0)]) rfl (fun X X X=>⟨by kernel_rfl,by kernel_rfl,by kernel_rfl⟩) ?_ ?_
 ·intro acc k p e r
  refine (let ww:Wt:=_;(?_:Sm _ ww))
  refine .rf (.x (.str p.1)) (some (SV.str p.1)) (.st .o (bt (b:=sizeL) (hp.1 p (mG e))) ?_)
  rcases fT (zaD s p) with q | q
  ·exact .st (.b true) q (.rf (.x (.str p.2)) (some (SV.str p.2)) (.asIs (.st .o (an (r.len (n:=sizeL) (Nat.lt_trans hp.2 (by decide))) (rfl:(false || true)=true)) (.next 8 (zu9 ps s) (Fm (zpW s) ps) k (acc ++ [.str p.2]) (.to 7 []) (r.one e (by rw [zpW,q];rfl))))))
  ·exact .st (.b false) q (.next 8 (zu9 ps s) (Fm (zpW s) ps) k acc (.to 7 []) (r.no e (by rw [zpW,q];rfl)))
 ·intro acc r
  obtain rfl:=r.all.trans (zgo s ps)
  refine (let ww:Wt:=_;(?_:Sm _ ww))
  exact .froz 6 (znV ps s) (.asIs (.endD 3 (.lst (znV ps s)) (hO (ps.map pA)) [0,1,2]))
def zdK(ps:List (List Nat×List Nat))(s:List Nat):AV:=Option.casesOn (motive:=fun X=>AV) (ps.find? (zaD s)) .none fun p=> .str p.2
theorem zff{α:Type}{f:α→Bool}{z:List α}{k:Nat}{c:α}(e:z[k]? = some c)(h:(z.take k).find? f=none):(f c=true→z.find? f=some c)∧(f c=false→(z.take (k+1)).find? f=none):=by
 have tk:z.take (k+1)=z.take k ++ [c]:=by rw [List.take_succ,e];rfl
 refine ⟨fun q=>?_,fun q=>by rw [tk,List.find?_append,h,List.find?_cons_of_neg (by rw [q];exact Bool.false_ne_true)];rfl⟩
 rw [←List.take_append_drop (k+1) z,List.find?_append,tk,List.find?_append,h,List.find?_cons_of_pos q];rfl
def zuX(ps:List (List Nat×List Nat))(s:List Nat)(_:Unit)(k:Nat):Hp:= .of [.inst 345 1, .dict true [(hk, .ref 2)], .list false (ps.map pA), .frame [("name", .str (zag s)),("default", .none)], .liter (.ref 2) k]
def w248(P:PM T3)(ps:List (List Nat×List Nat))(s:List Nat):Wt:=dW P (fdH 8,[.none]) [.ref 0, .str s] [] (hO (ps.map pA)) (zdK ps s) (hO (ps.map pA))
def ztW(ps:List (List Nat×List Nat))(s:List Nat)(_:Unit)(k:Nat):Prop:=(ps.take k).find? (zaD s)=none
theorem zkL(B:Tbl T3 P.c)(ps:List (List Nat×List Nat))(s:List Nat)(hs:okN s)(hp:okH ps):za6 P.up.up (.glob 292) [.ref 0, .str s] [] (Hp.of (hO (ps.map pA))) (DK (zdK ps s) (hO (ps.map pA))):=by
 refine zb0 B (?_:Sm P.up (w248 P.up ps s))
 refine .st .o (bt (b:=sizeL) hs.2.1) (.callD (zdU B (ps.map pA) (zag s) true hs.2.2.2 hs.2.1) [0,1,2] ?_)
 refine .loopM B 5 (zam (q:=(false,ps.map pA)) (v:= .ref 2)) (zuX ps s) (ztW ps s) () (.to 3 [("name", .str (zag s)),("default", .none)]) rfl (fun X X X=>⟨by kernel_rfl,by kernel_rfl,by kernel_rfl⟩) ?_ ?_
 ·intro X k p e r
  refine (let ww:Wt:=_;(?_:Sm _ ww))
  refine .st .o (bt (b:=sizeL) (hp.1 p (mG e))) ?_
  rcases fT (zaD s p) with q | q
  ·exact .st (.b true) q (.asIs (.endE 3 (zdK ps s) (hO (ps.map pA)) [0,1,2] (.str p.2) (by unfold zdK;rw [(zff e r).1 q])))
  ·exact .st (.b false) q (.next 5 (zuX ps s) (ztW ps s) k () (.to 3 [("name", .str (zag s)),("default", .none)]) ((zff e r).2 q))
 ·intro X r
  refine (let ww:Wt:=_;(?_:Sm _ ww))
  exact .asIs (.endE 3 (zdK ps s) (hO (ps.map pA)) [0,1,2] .none (by unfold zdK;rw [show ps.find? (zaD s)=none by simpa only [ztW,List.take_length] using r]))
def zua(P:PM T3)(ps:List (List Nat×List Nat))(s v:List Nat)(r:AV)(os:List AO):Wt:=dW P (fdH 15,[]) [.ref 0, .str s, .str v] [] (hO (ps.map pA)) r os
theorem zfu(B:Tbl T3 P.c)(ps:List (List Nat×List Nat))(s v:List Nat)(p:List Nat×List Nat)(hs:okN s)(hp:okH ps)(hf:ps.find? (zaD s)=some p):za6 P.up.up.up (.glob 335) [.ref 0, .str s, .str v] [] (Hp.of (hO (ps.map pA))) (DK (.str p.2) (hO (ps.map pA))):=by
 refine zb0 B (.callD (zkL B ps s hs hp) [0,1,2] ?_:Sm P.up.up (zua P.up.up ps s v (.str p.2) (hO (ps.map pA))))
 have e:zdK ps s = .str p.2:=by unfold zdK;rw [hf]
 rw [e]
 exact .ff (.asIs (.endD 3 (.str p.2) (hO (ps.map pA)) [0,1,2]))
theorem zfv(B:Tbl T3 P.c)(ps:List (List Nat×List Nat))(s v:List Nat)(hs:okN s)(hv:okV v)(hp:okH ps)(hf:ps.find? (zaD s)=none):za6 P.up.up.up (.glob 335) [.ref 0, .str s, .str v] [] (Hp.of (hO (ps.map pA))) (DK (.str v) (hO (ps.map pA ++ [pA (s,v)]))):=by
 refine zb0 B (.callD (zkL B ps s hs hp) [0,1,2] ?_:Sm P.up.up (zua P.up.up ps s v (.str v) (hO (ps.map pA ++ [pA (s,v)]))))
 have e:zdK ps s = .none:=by unfold zdK;rw [hf]
 rw [e]
 refine .tt (.callD (zdU (P:=P.up) B (ps.map pA) s true hs.2.2.1 hs.1) [0,1,2] (.callD (zdU (P:=P.up) B (ps.map pA) v false hv.2 (lT hv.1 (by decide))) [0,1,2] (.st .o (an (bt (b:=sizeL) ?_:Nat.ble (ps.map pA).length.succ sizeL=true) (rfl:(false || true)=true)) (.asIs (.endD 3 (.str v) (hO (ps.map pA ++ [pA (s,v)])) [0,1,2])))))
 rw [List.length_map];exact Nat.lt_trans hp.2 (by decide)
theorem zia{T:Tabs}{P:PM T}{t:Expr}{it l:Nat}{p:Bool×List (List Nat×AV)}:Iter P t it [] (fun X h=>h.at_ it = .diter l∧(h.at_ l).dict? = some p∧p.2.isEmpty=true) (fun X h=>h) fun h=>h.set it .other:=⟨fun X X X X e=>no e,fun X X i H=>zp1 i.1 i.2.1 i.2.2 H⟩
noncomputable def H256(xs:List AV)(s v:List Nat)(_:Unit)(_:Nat):Hp:= .of [.inst 345 1, .dict true [(hk, .ref 2)], .list false xs, .dict false [], .frame [("_name", .str s),("self", .ref 0),("parts", .ref 5)], .list false [.str v], .items 3, .diter 3]
def w256(P:PM T3)(xs:List AV)(s v:List Nat):Wt:=dW P (fdH 16,[]) [.ref 0, .str s, .str v] [] (hO xs) .none (hO (xs ++ [pA (s,v)]))
theorem zfy(B:Tbl T3 P.c)(ps:List (List Nat×List Nat))(s v:List Nat)(hs:okN s)(hv:okV v)(hp:okH ps):za6 P.up.up (.glob 342) [.ref 0, .str s, .str v] [] (Hp.of (hO (ps.map pA))) (DK .none (hO (ps.map pA ++ [pA (s,v)]))):=by
 refine zb0 B (.tt (.tt (.callD (zdU B (ps.map pA) v false hv.2 (lT hv.1 (by decide))) [0,1,2] (.ok ?_))):Sm P.up (w256 P.up (ps.map pA) s v))
 refine .loop (xs:= []) B 8 (zia (l:=3) (p:=(false, []))) (H256 (ps.map pA) s v) (fun X X=>True) () (.to 4 [("_name", .str s),("self", .ref 0),("parts", .ref 5)]) trivial (fun X X X=>⟨by kernel_rfl,by kernel_rfl,by kernel_rfl,by kernel_rfl⟩) (fun X X X e=>no e) fun X X=>?_
 refine .callD (zdU B (ps.map pA) s true hs.2.2.1 hs.1) [0,1,2] (.rf (.ls [v]) [AV.str v] (.st .o (bt (b:=sizeL) (?_:v.length+0+1*2≤sizeL)) (.st .o (an (bt (b:=sizeL) ?_:Nat.ble (ps.map pA).length.succ sizeL=true) (rfl:(false || true)=true)) (.endD 3 .none (hO (ps.map pA ++ [pA (s,v)])) [0,1,2]))))
 ·exact lT (Nat.add_le_add_right hv.1 2) (by decide)
 ·rw [List.length_map];exact Nat.lt_trans hp.2 (by decide)
end
section
variable {P:PM T3} {h:Hp} {K:AV→Hp→Prop}
def fdN(j:Nat):FDat:=ziC pw3 13 j
noncomputable def kLn:List Nat:=[108,105,110,101,110,111]
noncomputable def kIn:List Nat:=[105,110,115,116,114,101,97,109]
noncomputable def kWs:List Nat:=[119,104,105,116,101,115,112,97,99,101]
noncomputable def kPb:List Nat:=[112,117,115,104,98,97,99,107]
noncomputable def kRd:List Nat:=[114,101,97,100]
noncomputable def wsL:List Nat:=[10,9,13,32]
def zfa:FDat:=zq8 none (zah pw3 26 none).body[1]?
def zsY(T:List Nat)(p:Int):List AO:=[.inst 133 3, .dict true [(kLn, .int 1),(kIn, .none),(kWs, .str wsL),(kPb, .ref 4),(kRd, .ref 5)], .list false [], .clo zfa [("page",6)], .cell (some (.ref 7)), .list false [.str T, .int p]]
def zaZ(T:List Nat)(p ln:Int)(pb:List AV):List AO:= .dict true [(kLn, .int ln),(kIn, .ref 2),(kWs, .str wsL),(kPb, .ref 8)] :: .inst 133 0 :: (zsY T p ++ [.list false pb])
def w130(P:PM T3):Wt:=dW P (fdN 0,[]) [.ref 1, .none] [] [.dict true [], .inst 133 0] .none [.dict true [(kLn, .int 1),(kIn, .none),(kWs, .str wsL),(kPb, .ref 2)], .inst 133 0, .list false []]
theorem zmT(B:Tbl T3 P.c):za6 P.up (.glob 109) [.ref 1, .none] [] (Hp.of [.dict true [], .inst 133 0]) (DK .none [.dict true [(kLn, .int 1),(kIn, .none),(kWs, .str wsL),(kPb, .ref 2)], .inst 133 0, .list false []]):=
 zb0 B (.tt (.endD 2 .none [.dict true [(kLn, .int 1),(kIn, .none),(kWs, .str wsL),(kPb, .ref 2)], .inst 133 0, .list false []] [0,1,3]):Sm P (w130 P))
def w131(P:PM T3)(T:List Nat):Wt:=dW P (fdN 0,[]) [.ref 1, .ref 2] [] (.dict true [] :: .inst 133 0 :: zsY T 0) .none (zaZ T 0 1 [])
theorem zmS(B:Tbl T3 P.c)(T:List Nat):za6 P.up (.glob 109) [.ref 1, .ref 2] [] (Hp.of (.dict true [] :: .inst 133 0 :: zsY T 0)) (DK .none (zaZ T 0 1 [])):=
 zb0 B (.tt (.endD 8 .none (zaZ T 0 1 []) [0,1,2,3,4,5,6,7,9]):Sm P (w131 P T))
def rdC(T:List Nat)(p:Nat):List Nat:=zao T (some (p:Int)) (some ((p:Int)+1)) none
theorem zjf(T:List Nat)(p:Nat):rdC T p=(T.drop p).take 1:=by
 have:=zbj T p (p+1)
 rw [show p+1-p=1 by lia] at this
 exact this
theorem zje(T:List Nat)(p:Nat):(rdC T p).length≤1:=by rw [zjf,List.length_take];lia
def gvO(T:List Nat)(p:Int):List AO:=[.clo zfa [("page",1)], .cell (some (.ref 2)), .list false [.str T, .int p]]
def w26(P:PM T3)(T:List Nat)(p:Nat):Wt:=kW P zfa [("page",1)] [.int 1] (gvO T p) (.str (rdC T p)) (gvO T ((p:Int)+(rdC T p).length))
theorem zrW(B:Tbl T3 P.c)(T:List Nat)(p:Nat)(hT:T.length≤1000000):za6 P.up (.ref 0) [.int 1] [] (Hp.of (gvO T p)) (DK (.str (rdC T p)) (gvO T ((p:Int)+(rdC T p).length))):=
 zqb B (.rf (.a (.str T)) (some (AV.str T)) (.rf (.a (.int p)) (some (AV.int p)) (.rf (.a (.int p)) (some (AV.int p)) (.ok (.st .o (bt (b:=sizeL) (lT hT (by decide))) (.rf (.a (.int p)) (some (AV.int p)) (.st .o (bt (b:=sizeL) (lT (zje T p) (by decide))) (.ok (.asIs (.endD 3 (.str (rdC T p)) (gvO T ((p:Int)+(rdC T p).length)) [0,1,2]))))))))):Sm P (w26 P T p))
def rdP(T:List Nat)(p:Nat):Nat:=p+(rdC T p).length
def rdL(T:List Nat)(p ln:Nat):Nat:=bif rdC T p == [10] then ln+1 else ln
def w132(P:PM T3)(T:List Nat)(p ln ln':Nat)(pb:List AV):Wt:=dW P (fdN 1,[]) [.ref 1] [] (zaZ T p ln pb) (.str (rdC T p)) (zaZ T (rdP T p) ln' pb)
theorem zhA(B:Tbl T3 P.c)(T:List Nat)(p ln:Nat)(pb:List AV)(hT:T.length≤1000000):za6 P.up.up (.glob 116) [.ref 1] [] (Hp.of (zaZ T p ln pb)) (DK (.str (rdC T p)) (zaZ T (rdP T p) (rdL T p ln) pb)):=by
 generalize e:rdL T p ln=ln'
 refine zb0 B (.callD (zrW B T p hT) [5,6,7] ?_:Sm P.up (w132 P.up T p ln ln' pb))
 unfold rdL at e
 induction q:rdC T p == [10] with
 | true=>rw [q] at e;subst e;exact .st (.b true) q (.asIs (.endD 9 (.str (rdC T p)) (zaZ T (rdP T p) ((ln+1:Nat):Int) pb) [0,1,2,3,4,5,6,7,8]))
 | false=>rw [q] at e;subst e;exact .st (.b false) q (.asIs (.endD 9 (.str (rdC T p)) (zaZ T (rdP T p) (ln:Int) pb) [0,1,2,3,4,5,6,7,8]))
def w133(P:PM T3)(T:List Nat)(p ln:Int)(ws:List AV)(s:List Nat):Wt:=dW P (fdN 3,[]) [.ref 1, .str s] [] (zaZ T p ln ws) .none (zaZ T p ln (ws ++ [.str s]))
theorem znT(B:Tbl T3 P.c)(T:List Nat)(p ln:Int)(ws:List AV)(s:List Nat)(hn:ws.length<sizeL):za6 P.up (.glob 130) [.ref 1, .str s] [] (Hp.of (zaZ T p ln ws)) (DK .none (zaZ T p ln (ws ++ [.str s]))):=
 zb0 B (.st .o (an (bt (b:=sizeL) hn:Nat.ble ws.length.succ sizeL=true) (rfl:(false || true)=true)) (.endD 9 .none (zaZ T p ln (ws ++ [.str s])) [0,1,2,3,4,5,6,7,8]):Sm P (w133 P T p ln ws s))
def w134(P:PM T3)(T:List Nat)(p ln:Int)(w:List Nat)(ws:List AV):Wt:=dW P (fdN 2,[]) [.ref 1] [] (zaZ T p ln (.str w :: ws)) (.str w) (zaZ T p ln ws)
theorem zdT(B:Tbl T3 P.c)(T:List Nat)(p ln:Int)(w:List Nat)(ws:List AV)(hn:ws.length<1000):za6 P.up (.glob 123) [.ref 1] [] (Hp.of (zaZ T p ln (.str w :: ws))) (DK (.str w) (zaZ T p ln ws)):=
 zb0 B (.st .o (bt (b:=sizeL) (Nat.lt_trans hn (by decide)):Nat.ble (ws.length+1) sizeL=true) (.tt (.rf (.ht (.str w) ws) (some (AV.str w,ws)) (.st .o (an (rfl:((0:Int)==0)=true) (bt (b:=sizeL) (Nat.lt_trans hn (by decide)):Nat.ble (ws.length+1) sizeL=true)) (.asIs (.endD 9 (.str w) (zaZ T p ln ws) [0,1,2,3,4,5,6,7,8]))))):Sm P (w134 P T p ln w ws))
end
theorem JN.post{T:Tabs}{P:PM T}{t:Expr}{it:Nat}{h:Hp}{K:Option AV→Hp→Prop}(H:JN P t it h fun o h'=>∃g,Wk h' g∧h.nx≤g.nx∧(∀x,o=some x→x.bd 0=true)∧K o g):JN P t it h K:=fun A E Q s W G hr k1 k2=>H A E Q s W G hr (fun W' h' s' S ⟨g,w,l,X,q⟩=>k1 _ _ _ (S.wk w l) q) fun v s' z=>k2 v s' (wpAny_mono z (fun X Z ⟨W',x,h',S,V,g,w,l,b,q⟩=>⟨W',x,g,S.wk w l,VR.bd0 (b x rfl) V,q⟩) fun X X q=>q)
theorem zbv{T r:List Nat}{p c:Nat}(h:T.drop p=c :: r):rdC T p = [c]∧rdP T p=p+1∧(∀ln,rdL T p ln=bif c==10 then ln+1 else ln)∧T.drop (p+1)=r∧p+1≤T.length:=by
 have e:rdC T p = [c]:=by rw [zjf,h];rfl
 refine ⟨e,by unfold rdP;rw [e];rfl,fun ln=>by unfold rdL;rw [e];simp,by rw [←List.drop_drop,h];rfl,?_⟩
 have:(T.drop p).length=r.length+1:=by rw [h];rfl
 rw [List.length_drop] at this;omega
theorem zgI{T:List Nat}{p:Nat}(h:T.drop p = []):rdC T p = []∧rdP T p=p∧∀ln,rdL T p ln=ln:=by
 have e:rdC T p = []:=by rw [zjf,h];rfl
 exact ⟨e,by unfold rdP;rw [e];rfl,fun ln=>by unfold rdL;rw [e];rfl⟩
section
variable {P:PM T3} {w:Wt} {ξ:Type}
noncomputable def lv:AO:= .citer (.ref 10) (.str []) false
noncomputable def dd:AO:= .citer .none .none true
noncomputable def lxH(HX:AO→Nat→Nat→ξ→Hp)(j:Bool×Nat×Nat×ξ):Hp:=HX (bif j.1 then dd else lv) j.2.1 j.2.2.1 j.2.2.2
noncomputable def lxM(T:List Nat)(j:Bool×Nat×Nat×ξ):Nat:=bif j.1 then 0 else T.length-j.2.1+1
def lxR(R RD:Nat→Nat→ξ→Prop)(j:Bool×Nat×Nat×ξ):Prop:=bif j.1 then RD j.2.1 j.2.2.1 j.2.2.2 else R j.2.1 j.2.2.1 j.2.2.2
noncomputable def lnN(c ln:Nat):Nat:=bif c==10 then ln+1 else ln
theorem zp5(B:Tbl T3 P.c)(T:List Nat)(hT:T.length≤1000000)(n:Nat)(HX:AO→Nat→Nat→ξ→Hp)(R RD:Nat→Nat→ξ→Prop)(p0 ln0:Nat)(x0:ξ)(wk:Wk w.hp (HX lv p0 ln0 x0))(h0:R p0 ln0 x0)
  (ht:∀p ln x c r,T.drop p=c :: r→R p ln x→Sm P.up.up (w.tw P.up.up (OnI (lxH HX) (lxM T) (lxR R RD) n (T.length-p+1)) (.str [c]) (HX lv (p+1) (lnN c ln) x)))
  (he:∀p ln x,T.drop p = []→R p ln x→Sm P.up.up (w.kh (HX dd p ln x))) (hd:∀p ln x,RD p ln x→Sm P.up.up (w.kh (HX dd p ln x)))
  (wp:∀p ln p' ln' x,Wk ((HX lv p ln x).patch [0,1,2,3,4,5,6,7,8] (Hp.of (zaZ T (p':Nat) (ln':Nat) []))) (HX lv p' ln' x)) (wd:∀p ln x,Wk (((HX lv p ln x).patch [0,1,2,3,4,5,6,7,8] (Hp.of (zaZ T (p:Nat) (ln:Nat) []))).set 11 dd) (HX dd p ln x))
  (g0:autoParam ((w.isF false,w.git,(HX lv p0 ln0 x0).nx,w.hp.nx)=(true,11,n,n)) Mine.kr1)
  (l1:∀p ln x,(Nat.blt 11 (HX lv p ln x).nx,(HX lv p ln x).at_ 11,((HX lv p ln x).at_ 10).bound?, [0,1,2,3,4,5,6,7,8].map (HX lv p ln x).at_, [0,1,2,3,4,5,6,7,8].all fun k=>Nat.blt k (HX lv p ln x).nx)=(true,lv,some (AV.ref 1,116),(zaZ T p ln []).map (AO.ren (gl [0,1,2,3,4,5,6,7,8])),true):=by intros;kernel_rfl)
  (l2:∀p ln p' ln' x,(((HX lv p ln x).patch [0,1,2,3,4,5,6,7,8] (Hp.of (zaZ T (p':Nat) (ln':Nat) []))).at_ 11,(((HX lv p ln x).patch [0,1,2,3,4,5,6,7,8] (Hp.of (zaZ T (p':Nat) (ln':Nat) []))).at_ 10).bound?,(HX lv p' ln' x).nx,(HX dd p' ln' x).nx,Nat.blt 11 (HX dd p' ln' x).nx,(HX dd p' ln' x).at_ 11)=(lv,some (AV.ref 1,116),n,n,true,dd):=by intros;kernel_rfl):Sm P.up.up w:=by
 have eg:w.git=11:=congrArg (·.2.1) g0
 refine ⟨Wt.loopX B n (lxH HX) (lxM T) (lxR R RD) (false,p0,ln0,x0) wk h0 (Prod.ext (congrArg (·.1) g0) (congrArg (·.2.2) g0)) fun i r=>?_⟩
 rw [eg]
 obtain ⟨b,p,ln,x⟩:=i
 have e2:=fun p' ln'=>l2 p ln p' ln' x
 induction b with
 | true=>exact ⟨congrArg (·.2.2.2.2.1) (e2 p ln),zlV (congrArg (·.2.2.2.2.2) (e2 p ln)) (hd p ln x r).sem⟩
 | false=>
  have e:=l1 p ln x
  refine ⟨congrArg (·.1) e,JN.post (zp2 (p:=(AV.ref 1,116)) (d:=(fdN 1, [])) (congrArg (·.2.1) e) (congrArg (·.2.2.1) e) (by kernel_rfl) (zmL (d:=(fdN 1, [])) (congrArg (·.2.2.1) e) (by kernel_rfl) (zkE (h:=HX lv p ln x) (σ:= [0,1,2,3,4,5,6,7,8]) ⟨congrArg (·.2.2.2.1) e,?_⟩ (zhA B T p ln [] hT) rfl rfl rfl rfl fun v E q=>?_)))⟩
  ·show (_&&_&&_&&_)=true
   exact an (by kernel_rfl) (congrArg (·.2.2.2.2) e)
  ·obtain ⟨rfl,rfl⟩:=q
   have f:=e2 (rdP T p) (rdL T p ln)
   have hn:(HX lv p ln x).nx=n:=congrArg (·.2.2.1) (e2 p ln)
   refine zbM rfl ⟨congrArg (·.1) f,congrArg (·.2.1) f,?_⟩
   induction er:T.drop p using cL with
   | nil=>
    have tm50:=zgI er
    have e1:=tm50.1
    have e3:=tm50.2.1
    have e4:=tm50.2.2
    rw [e1,e3,e4]
    exact .t rfl ⟨_,wd p ln x,Nat.le_of_eq (hn.trans (congrArg (·.2.2.2.1) (e2 p ln)).symm),nofun,(he p ln x er r).sem⟩
   | cons c r'=>
    have tm54:=zbv er
    have e1:=tm54.1
    have e3:=tm54.2.1
    have e4:=tm54.2.2.1
    have e5:=tm54.2.2.2.1
    have e6:=tm54.2.2.2.2
    rw [e1,e3,e4]
    exact .f rfl ⟨_,wp p ln (p+1) (lnN c ln) x,Nat.le_of_eq (hn.trans (congrArg (·.2.2.1) (e2 (p+1) (lnN c ln))).symm),fun x q=>sI q▸rfl,(ht p ln x c r' er r).sem⟩
end
def zqv:List Stmt:=zeF (fdN 2).body[3]?
def zsi:Option Stmt:=(zeF zqv[1]?)[0]?
def zq3:Option Stmt:=(ifO zqv[1]?)[2]?
def qF:Bool→Nat→List Nat→List Nat→List Nat×List Nat×Bool×Nat
 | _,ln,tok, []=>(tok, [],false,ln)
 | true,ln,tok,c :: r=>qF false (lnN c ln) (tok ++ [c]) r
 | false,ln,tok,c :: r=>if c=34 then (tok,r,true,ln) else if c=92 then qF true ln tok r else qF false (lnN c ln) (tok ++ [c]) r
def bF:Bool→Nat→List Nat→List Nat→List Nat×List Nat×Bool×Nat
 | _,ln,tok, []=>(tok, [],false,ln)
 | true,ln,tok,c :: r=>bF false (lnN c ln) (tok ++ [c]) r
 | false,ln,tok,c :: r=>if c∈wsL then (tok,r,true,lnN c ln) else if c=92 then bF true ln tok r else bF false ln (tok ++ [c]) r
def zdF:Nat→List Nat→List Nat×List Nat×Nat
 | ln, []=>([], [],ln)
 | ln,c :: r=>if c∈wsL then zdF (lnN c ln) r else
  if c=34 then ((qF false ln [] r).1,(qF false ln [] r).2.1,(qF false ln [] r).2.2.2) else
  if c=92 then ((bF true ln [] r).1,(bF true ln [] r).2.1,(bF true ln [] r).2.2.2) else ((bF false ln [c] r).1,(bF false ln [c] r).2.1,(bF false ln [c] r).2.2.2)
theorem ar1{a n p r d:Nat}(hl:a+(n-p)≤1000000)(hp:p+1≤n)(h:d+(n-r)=n-(p+1)):a+d≤sizeL∧a+d+(n-r)≤1000000:=
 have e:d+(n-r)≤n-p:=h▸Nat.sub_le_sub_left (Nat.le_succ p) n
 have k:a+d+(n-r)≤1000000:=Nat.add_assoc a d _▸lT (Nat.add_le_add_left e a) hl
 ⟨lT (lT (Nat.le_add_right _ _) k) (by decide),k⟩
theorem ar2{n p r:Nat}(h:p+1≤r)(hr:r≤n):n-r+1<n-p+1:=Nat.succ_lt_succ (Nat.sub_lt_sub_left (lL h hr) h)
theorem ar3{n p:Nat}(h:p+1≤n):1+(n-(p+1))=n-p:=by rw [Nat.add_comm,Nat.sub_add_eq];exact Nat.sub_add_cancel (Nat.sub_pos_of_lt h)
theorem ar4{a n p:Nat}(hl:a+(n-p)≤1000000)(hp:p+1≤n):a+1≤sizeL∧a+1+(n-(p+1))≤1000000:=
 have k:a+1+(n-(p+1))≤1000000:=Nat.add_assoc a 1 _▸(ar3 hp).symm▸hl
 ⟨lT (lT (Nat.le_add_right _ _) k) (by decide),k⟩
theorem ztx(T:List Nat)(p ln:Nat)(tok:List Nat):qF true ln tok (T.drop p)=qF false (rdL T p ln) (tok++rdC T p) (T.drop (rdP T p)):=by
 induction e:T.drop p using cL with
 | nil=>obtain ⟨e1,e2,e3⟩:=zgI e;rw [e1,e2,e3,e,List.append_nil,qF,qF]
 | cons c r=>obtain ⟨e1,e2,e3,e4,X⟩:=zbv e;rw [e1,e2,e3,e4,qF];rfl
theorem zrq(T:List Nat)(p ln:Nat)(tok:List Nat):bF true ln tok (T.drop p)=bF false (rdL T p ln) (tok++rdC T p) (T.drop (rdP T p)):=by
 induction e:T.drop p using cL with
 | nil=>obtain ⟨e1,e2,e3⟩:=zgI e;rw [e1,e2,e3,e,List.append_nil,bF,bF]
 | cons c r=>obtain ⟨e1,e2,e3,e4,X⟩:=zbv e;rw [e1,e2,e3,e4,bF];rfl
theorem zjd{T:List Nat}{p:Nat}(h:p≤T.length):p≤rdP T p∧rdP T p≤T.length∧(rdC T p).length+(T.length-rdP T p)=T.length-p:=by
 induction e:T.drop p using cL with
 | nil=>
  have tm58:=zgI e
  have e1:=tm58.1
  have e2:=tm58.2.1
  rw [e1,e2];exact ⟨rL _,h,Nat.zero_add _⟩
 | cons c r=>
  have tm61:=zbv e
  have e1:=tm61.1
  have e2:=tm61.2.1
  have e5:=tm61.2.2.2.2
  rw [e1,e2];exact ⟨Nat.le_succ p,e5,ar3 e5⟩
theorem zfB{T r:List Nat}{p:Nat}(h:p≤T.length)(e:T.drop p=r):p=T.length-r.length:=by
 rw [←congrArg List.length e,List.length_drop,Nat.sub_sub_self h]
def frT:Fr:=⟨(fdN 2).scope,9,[],none⟩
def frL(tok:List Nat):List (Str×AV):=[("fiter", .ref 11),("token", .str tok),("self", .ref 1)]
def HXt(T:List Nat)(o:AO)(p ln:Nat)(tok:List Nat):Hp:= .of (zaZ T p ln [] ++ [.frame (frL tok), .bound (.ref 1) 116,o])
def HXc(T:List Nat)(p ln:Nat)(tok:List Nat)(c:Nat):Hp:=(HXt T lv p ln tok).set 9 (.frame (("ch", .str [c]) :: frL tok))
noncomputable abbrev Rz:=List Nat×List Nat×Bool×Nat
def Rt(F:Bool→Nat→List Nat→List Nat→Rz)(T:List Nat)(Z:Rz)(p ln:Nat)(tok:List Nat):Prop:=F false ln tok (T.drop p)=Z∧p≤T.length∧tok.length+(T.length-p)≤1000000
def Rno{ξ:Type}(_ _:Nat)(_:ξ):Prop:=False
section
variable {P:PM T3}
theorem zsT(B:Tbl T3 P.c)(T:List Nat)(hT:T.length≤1000000)(h:Hp)(k:Fl→Hp→Wt)(Z:Rz)(p0 ln0:Nat)(tok0:List Nat)(wk:Wk h (HXt T lv p0 ln0 tok0))(hn:h.nx=12)(h0:Rt qF T Z p0 ln0 tok0)
  (hr:Z.2.2.1=true→∀p c,p=T.length-Z.2.1.length→Sm P.up.up (k (.ret (.str Z.1)) (HXc T p Z.2.2.2 Z.1 c))) (he:Z.2.2.1=false→∀p,p=T.length-Z.2.1.length→Sm P.up.up (k .next (HXt T dd p Z.2.2.2 Z.1))):Sm P.up.up (.fj false frT (zig zsi) (zeF zsi) 11 h k):=by
 refine zp5 B T hT 12 (HXt T) (Rt qF T Z) Rno p0 ln0 tok0 wk h0 ?_ ?_ (fun X X X z=>z.elim) (fun X X X X X=> .ct) (fun X X X=> .ct) (congrArg (fun m=>(true,11,12,m)) hn)
 ·rintro p ln tok c r er ⟨hz,hp,hl⟩
  obtain ⟨e1,e2,e3,e4,e5⟩:=zbv er
  rcases fT ([c] == [34]) with q | q
  ·obtain rfl:c=34:=by simpa using q
   obtain rfl:(tok,r,true,ln)=Z:=by rw [←hz,er,qF,if_pos rfl]
   refine (let ww:Wt:=_;(?_:Sm _ ww))
   exact .tt (.via (k (.ret (.str tok)) (HXc T (p+1) ln tok 34)) (hr rfl (p+1) 34 (zfB e5 e4)))
  ·have c1:c≠34:=by simpa using q
   refine (let ww:Wt:=_;(?_:Sm _ ww))
   refine .st (.b false) q ?_
   rcases fT ([c] == [92]) with q | q
   ·obtain rfl:c=92:=by simpa using q
    obtain ⟨f1,f2,f3⟩:=zjd e5
    refine (let ww:Wt:=_;(?_:Sm _ ww))
    refine .tt (.callD (zhA B T (p+1) ln [] hT) [0,1,2,3,4,5,6,7,8] (.st .o (bt (b:=sizeL) (?_:tok.length+(rdC T (p+1)).length≤sizeL)) (.nextI 12 (lxH (HXt T)) (lxM T) (lxR (Rt qF T Z) Rno) (T.length-p+1) (false,rdP T (p+1),rdL T (p+1) ln,tok++rdC T (p+1)) (.to 9 (frL (tok++rdC T (p+1)))) ?_ ⟨?_,f2,?_⟩)))
    ·exact (ar1 hl e5 f3).1
    ·exact ar2 f1 f2
    ·rw [←hz,er,qF,if_neg (by decide),if_pos rfl,←e4];exact (ztx T (p+1) ln tok).symm
    ·exact List.length_append▸(ar1 hl e5 f3).2
   ·have c2:c≠92:=by simpa using q
    refine (let ww:Wt:=_;(?_:Sm _ ww))
    refine .st (.b false) q (.st .o (bt (b:=sizeL) (?_:tok.length + [c].length≤sizeL)) (.nextI 12 (lxH (HXt T)) (lxM T) (lxR (Rt qF T Z) Rno) (T.length-p+1) (false,p+1,lnN c ln,tok ++ [c]) (.to 9 (frL (tok ++ [c]))) ?_ ⟨?_,e5,?_⟩))
    ·exact (ar4 hl e5).1
    ·exact ar2 (rL _) e5
    ·rw [←hz,er,qF,if_neg c1,if_neg c2];exact congrArg _ e4
    ·exact List.length_append▸(ar4 hl e5).2
 ·rintro p ln tok er ⟨hz,hp,hl⟩
  obtain rfl:(tok, [],false,ln)=Z:=by rw [←hz,er,qF]
  refine (let ww:Wt:=_;(?_:Sm _ ww))
  exact .via (k .next (HXt T dd p ln tok)) (he rfl p (zfB hp er))
theorem zqu(B:Tbl T3 P.c)(T:List Nat)(hT:T.length≤1000000)(h:Hp)(k:Fl→Hp→Wt)(Z:Rz)(p0 ln0:Nat)(tok0:List Nat)(wk:Wk h (HXt T lv p0 ln0 tok0))(hn:h.nx=12)(h0:Rt bF T Z p0 ln0 tok0)
  (hr:Z.2.2.1=true→∀p c,p=T.length-Z.2.1.length→Sm P.up.up (k (.ret (.str Z.1)) (HXc T p Z.2.2.2 Z.1 c))) (he:Z.2.2.1=false→∀p,p=T.length-Z.2.1.length→Sm P.up.up (k .next (HXt T dd p Z.2.2.2 Z.1))):Sm P.up.up (.fj false frT (zig zq3) (zeF zq3) 11 h k):=by
 refine zp5 B T hT 12 (HXt T) (Rt bF T Z) Rno p0 ln0 tok0 wk h0 ?_ ?_ (fun X X X z=>z.elim) (fun X X X X X=> .ct) (fun X X X=> .ct) (congrArg (fun m=>(true,11,12,m)) hn)
 ·rintro p ln tok c r er ⟨hz,hp,hl⟩
  have tm111:=zbv er
  have e1:=tm111.1
  have e2:=tm111.2.1
  have e3:=tm111.2.2.1
  have e4:=tm111.2.2.2.1
  have e5:=tm111.2.2.2.2
  rcases fT (decide (c∈wsL)) with q | q
  ·obtain rfl:(tok,r,true,lnN c ln)=Z:=by rw [←hz,er,bF,if_pos (oD q)]
   exact .st (.b true) q (.via (k (.ret (.str tok)) (HXc T (p+1) (lnN c ln) tok c)) (hr rfl (p+1) c (zfB e5 e4)))
  ·have c1:=of_decide_eq_false q
   have el:lnN c ln=ln:=by
    unfold lnN
    rw [show (c==10)=false from beq_eq_false_iff_ne.mpr fun e=>c1 (e▸by decide)];rfl
   refine .st (.b false) q ?_
   rcases fT ([c] == [92]) with q | q
   ·obtain rfl:c=92:=by simpa using q
    have tm122:=zjd e5
    have f1:=tm122.1
    have f2:=tm122.2.1
    have f3:=tm122.2.2
    refine .tt (.callD (zhA B T (p+1) ln [] hT) [0,1,2,3,4,5,6,7,8] (.st .o (bt (b:=sizeL) (?_:tok.length+(rdC T (p+1)).length≤sizeL)) (.nextI 12 (lxH (HXt T)) (lxM T) (lxR (Rt bF T Z) Rno) (T.length-p+1) (false,rdP T (p+1),rdL T (p+1) ln,tok++rdC T (p+1)) (.to 9 (frL (tok++rdC T (p+1)))) ?_ ⟨?_,f2,?_⟩)))
    ·exact (ar1 hl e5 f3).1
    ·exact ar2 f1 f2
    ·rw [←hz,er,bF,if_neg c1,if_pos rfl,←e4];exact (zrq T (p+1) ln tok).symm
    ·exact List.length_append▸(ar1 hl e5 f3).2
   ·have c2:c≠92:=by simpa using q
    refine .st (.b false) q (.st .o (bt (b:=sizeL) (?_:tok.length + [c].length≤sizeL)) (.nextI 12 (lxH (HXt T)) (lxM T) (lxR (Rt bF T Z) Rno) (T.length-p+1) (false,p+1,lnN c ln,tok ++ [c]) (.to 9 (frL (tok ++ [c]))) ?_ ⟨?_,e5,?_⟩))
    ·exact (ar4 hl e5).1
    ·exact ar2 (rL _) e5
    ·show bF false (lnN c ln) (tok ++ [c]) (T.drop (p+1))=Z
     rw [←hz,er,bF,if_neg c1,if_neg c2,e4,el]
    ·exact List.length_append▸(ar4 hl e5).2
 ·rintro p ln tok er ⟨hz,hp,hl⟩
  obtain rfl:(tok, [],false,ln)=Z:=by rw [←hz,er,bF]
  exact .via (k .next (HXt T dd p ln tok)) (he rfl p (zfB hp er))
def Rl(T:List Nat)(L:List Nat×List Nat×Nat)(p ln:Nat)(tok:List Nat):Prop:=tok = []∧zdF ln (T.drop p)=L∧p≤T.length
def Rd(T:List Nat)(L:List Nat×List Nat×Nat)(p ln:Nat)(tok:List Nat):Prop:=tok=L.1∧p=T.length-L.2.1.length∧ln=L.2.2
def w135(P:PM T3)(T:List Nat)(p ln:Nat)(L:List Nat×List Nat×Nat):Wt:=dW P (fdN 2,[]) [.ref 1] [] (zaZ T p ln []) (.str L.1) (zaZ T (T.length-L.2.1.length:Nat) L.2.2 [])
theorem zgl(B:Tbl T3 P.c)(T:List Nat)(hT:T.length≤90000)(p ln:Nat)(hp:p≤T.length)(L:List Nat×List Nat×Nat)(hL:zdF ln (T.drop p)=L):za6 P.up.up.up (.glob 123) [.ref 1] [] (Hp.of (zaZ T p ln [])) (DK (.str L.1) (zaZ T (T.length-L.2.1.length:Nat) L.2.2 [])):=by
 have hT':T.length≤1000000:=lT hT (by decide)
 refine zb0 B (.ok (.ff ?_):Sm P.up.up (w135 P.up.up T p ln L))
 refine zp5 B T hT' 12 (HXt T) (Rl T L) (Rd T L) p ln [] .ct ⟨rfl,hL,hp⟩ ?_ ?_ ?_ (fun X X X X X=> .ct) (fun X X X=> .ct)
 ·rintro p ln tok c r er ⟨rfl,hL,hp⟩
  obtain ⟨e1,e2,e3,e4,e5⟩:=zbv er
  rw [er] at hL
  rcases fT (decide (c∈wsL)) with q | q
  ·rw [zdF,if_pos (oD q)] at hL
   refine (let ww:Wt:=_;(?_:Sm _ ww))
   exact .st (.b true) q (.nextI 12 (lxH (HXt T)) (lxM T) (lxR (Rl T L) (Rd T L)) (T.length-p+1) (false,p+1,lnN c ln, []) (.to 9 (frL [])) (ar2 (rL _) e5) ⟨rfl,e4▸hL,e5⟩)
  ·have c1:=of_decide_eq_false q
   rw [zdF,if_neg c1] at hL
   refine (let ww:Wt:=_;(?_:Sm _ ww))
   refine .st (.b false) q ?_
   rcases fT ([c] == [34]) with q | q
   ·obtain rfl:c=34:=by simpa using q
    rw [if_pos rfl] at hL
    generalize hz:qF false ln [] r=Z at hL
    obtain ⟨z1,z2,z3,z4⟩:=Z
    subst hL
    refine (let ww:Wt:=_;(?_:Sm _ ww))
    refine .tt (.viaF frT (zig zsi) (zeF zsi) 11 (zsT B T hT' _ _ (z1,z2,z3,z4) (p+1) ln [] (.to 9 (frL [])) (by kernel_rfl) ⟨e4▸hz,e5,(Nat.zero_add _).symm▸lT (Nat.sub_le _ _) hT'⟩ ?_ ?_))
    ·rintro _ _ c' rfl
     exact .asIs (.endD 9 (.str z1) (zaZ T (T.length-z2.length:Nat) z4 []) [0,1,2,3,4,5,6,7,8])
    ·rintro _ _ rfl
     exact .nextI 12 (lxH (HXt T)) (lxM T) (lxR (Rl T (z1,z2,z4)) (Rd T (z1,z2,z4))) (T.length-p+1) (true,T.length-z2.length,z4,z1) .ct (Nat.succ_pos _) ⟨rfl,rfl,rfl⟩
   ·have c2:c≠34:=by simpa using q
    rw [if_neg c2] at hL
    refine (let ww:Wt:=_;(?_:Sm _ ww))
    refine .st (.b false) q ?_
    rcases fT ([c] == [92]) with q | q
    ·obtain rfl:c=92:=by simpa using q
     obtain ⟨f1,f2,f3⟩:=zjd e5
     rw [if_pos rfl,←e4,zrq] at hL
     generalize hz:bF false (rdL T (p+1) ln) ([]++rdC T (p+1)) (T.drop (rdP T (p+1)))=Z at hL
     obtain ⟨z1,z2,z3,z4⟩:=Z
     subst hL
     have f4:=zje T (p+1)
     refine (let ww:Wt:=_;(?_:Sm _ ww))
     refine .tt (.callD (zhA B T (p+1) ln [] hT') [0,1,2,3,4,5,6,7,8] (.st .o (bt (b:=sizeL) (?_:0+(rdC T (p+1)).length≤sizeL)) (.viaF frT (zig zq3) (zeF zq3) 11 (zqu B T hT' _ _ (z1,z2,z3,z4) (rdP T (p+1)) (rdL T (p+1) ln) ([]++rdC T (p+1)) (.to 9 (frL ([]++rdC T (p+1)))) (by kernel_rfl) ⟨hz,f2,?_⟩ ?_ ?_))))
     ·exact Nat.zero_add _▸lT f4 (by decide)
     ·exact f3▸lT (Nat.sub_le _ _) hT'
     ·rintro _ _ c' rfl
      exact .asIs (.endD 9 (.str z1) (zaZ T (T.length-z2.length:Nat) z4 []) [0,1,2,3,4,5,6,7,8])
     ·rintro _ _ rfl
      exact .nextI 12 (lxH (HXt T)) (lxM T) (lxR (Rl T (z1,z2,z4)) (Rd T (z1,z2,z4))) (T.length-p+1) (true,T.length-z2.length,z4,z1) .ct (Nat.succ_pos _) ⟨rfl,rfl,rfl⟩
    ·have c3:c≠92:=by simpa using q
     rw [if_neg c3] at hL
     generalize hz:bF false ln [c] r=Z at hL
     obtain ⟨z1,z2,z3,z4⟩:=Z
     subst hL
     have el:lnN c ln=ln:=by
      unfold lnN
      rw [show (c==10)=false from beq_eq_false_iff_ne.mpr fun e=>c1 (e▸by decide)];rfl
     refine (let ww:Wt:=_;(?_:Sm _ ww))
     refine .st (.b false) q (.ok (.viaF frT (zig zq3) (zeF zq3) 11 (zqu B T hT' _ _ (z1,z2,z3,z4) (p+1) (lnN c ln) [c] (.to 9 (frL [c])) (by kernel_rfl) ⟨by rw [el,e4,hz],e5,ar3 e5▸lT (Nat.sub_le _ _) hT'⟩ ?_ ?_)))
     ·rintro _ _ c' rfl
      refine (let ww:Wt:=_;(?_:Sm _ ww))
      exact .asIs (.endD 9 (.str z1) (zaZ T (T.length-z2.length:Nat) z4 []) [0,1,2,3,4,5,6,7,8])
     ·rintro _ _ rfl
      exact .nextI 12 (lxH (HXt T)) (lxM T) (lxR (Rl T (z1,z2,z4)) (Rd T (z1,z2,z4))) (T.length-p+1) (true,T.length-z2.length,z4,z1) .ct (Nat.succ_pos _) ⟨rfl,rfl,rfl⟩
 ·rintro p ln tok er ⟨rfl,hL,hp⟩
  rw [er,zdF] at hL
  subst hL
  obtain rfl:p=T.length-0:=zfB hp er
  refine (let ww:Wt:=_;(?_:Sm _ ww))
  exact .asIs (.endD 9 (.str []) (zaZ T (T.length-0:Nat) ln []) [0,1,2,3,4,5,6,7,8])
 ·rintro p ln tok ⟨rfl,rfl,rfl⟩
  exact .asIs (.endD 9 (.str L.1) (zaZ T (T.length-L.2.1.length:Nat) L.2.2 []) [0,1,2,3,4,5,6,7,8])
end
section
variable {P:PM T3}
def ztk(T:List Nat):List AO:=[.list false [.str T, .int 0], .dict true [(kLn, .int 1),(kIn, .ref 3),(kWs, .str wsL),(kPb, .ref 8)], .inst 133 1, .inst 133 4, .dict true [(kLn, .int 1),(kIn, .none),(kWs, .str wsL),(kPb, .ref 5),(kRd, .ref 6)], .list false [], .clo zfa [("page",7)], .cell (some (.ref 0)), .list false []]
def w26L(P:PM T3)(T:List Nat):Wt:=dW P (zah pw3 26 (some (351,289,4)),[]) [.ref 0] [] [.list false [.str T, .int 0]] (.ref 2) (ztk T)
theorem zpL(B:Tbl T3 P.c)(T:List Nat):za6 P.up.up.up (.glob 356) [.ref 0] [] (Hp.of [.list false [.str T, .int 0]]) (DK (.ref 2) (ztk T)):=by
 refine zb0 B (.newD (a:=133) (args:= [.none]) (zmT B) [3,4] (.newD (a:=133) (args:= [.ref 4]) (zmS B T) [7,8,4,3,5,6,2,0] ?_):Sm P.up.up (w26L P.up.up T))
 exact .asIs (.endD 1 (.ref 2) (ztk T) [0,7,8,4,3,5,6,2,9])
end
section
variable {P:PM T3} {h:Hp} {K:AV→Hp→Prop}
def H2(w:Int)(i:Nat):Hp:= .of [.frame [("ws", .ref 3),("need", .ref 2),("seen", .ref 1),("w", .int w),("more_than", .int 2048)], .set [], .set [], .set (Nat.rec (motive:=fun X=>List SV) [.int w] (fun X X=> []) i)]
def w2(P:PM T3)(w:Int):Wt:=dW P (zah pw3 2 (some (34,0,0)),[.bool false]) [.int w, .int 5, .int 2048] [] [] (.ref 0) [.dict false []]
theorem zmR(B:Tbl T3 P.c)(w:Int)(hw:w≤2048):za6 P.up (.glob 39) [.int w, .int 5, .int 2048] [] (Hp.of []) (DK (.ref 0) [.dict false []]):=by
 refine zb0 B (?_:Sm P (w2 P w))
 refine .whl B 4 (H2 w) (fun i=>1-i) (fun i=>i<2) 0 (.to 0 [("ws", .ref 3),("need", .ref 2),("seen", .ref 1),("w", .int w),("more_than", .int 2048)]) (by decide) fun i hi=>?_
 match i,hi with
 | 0,_=>exact .ok (.tt (.ff (.st (.b true) (dT hw) (.tt (.nextI 4 (H2 w) (fun i=>1-i) (fun i=>i<2) 1 1 (.to 0 [("ws", .ref 3),("need", .ref 2),("seen", .ref 1),("w", .int w),("more_than", .int 2048)]) (by decide) (by decide))))))
 | 1,_=>exact .ok (.ff (.ok (.tt (.asIs (.endD 0 (.ref 0) [.dict false []] [4])))))
def ziR:FDat:=zq8 none (zah pw3 3 (some (41,47,4))).body[1]?
def inO(s:List Nat):List AO:=[.clo ziR [("w5pow",1),("s",2),("inner",3),("DIGLIM",4)], .cell (some (.ref 5)), .cell (some (.str s)), .cell (some (.ref 0)), .cell (some (.int 2048)), .dict false []]
def w3i(P:PM T3)(s:List Nat)(i:Int):Wt:=kW P ziR [("w5pow",1),("s",2),("inner",3),("DIGLIM",4)] [.int 0, .int s.length] (inO s) (.int i) (inO s)
theorem zmU(B:Tbl T3 P.c)(s:List Nat)(i:Int)(hl:s.length≤640)(e:zb7 s=some i):za6 P.up (.ref 0) [.int 0, .int s.length] [] (Hp.of (inO s)) (DK (.int i) (inO s)):=by
 have es:zao s (some (0:Int)) (some (s.length:Int)) none=s:=by
  have:=zbj s 0 s.length
  rwa [List.drop_zero,Nat.sub_zero,List.take_length] at this
 exact zqb B (.st (.b true) (dT (Int.le_trans (Int.sub_le_self _ (by decide)) (Int.le_trans (Int.ofNat_le.mpr hl) (by decide))):decide ((s.length:Int)-0≤2048)=true) (.ok (.st .o (bt (b:=sizeL) (lT hl (by decide))) (.st (.i i) (es.symm▸e:zb7 (zao s (some (0:Int)) (some (s.length:Int)) none)=some i) (.asIs (.endD 6 (.int i) (inO s) [0,1,2,3,4,5]))))):Sm P (w3i P s i))
def w3(P:PM T3)(s:List Nat)(i:Int):Wt:=pW P (zah pw3 3 (some (41,47,4)),[]) [.str s] (.int i)
theorem ztL(B:Tbl T3 P.c)(s:List Nat)(i:Int)(hl:s.length≤640)(e:zb7 s=some i)(k:K (.int i) h):za6 P.up.up (.glob 46) [.str s] [] h K:=by
 have l:Nat.ble s.length sizeL=true:=bt (lT hl (by decide))
 exact zc2 B (.st .o l (.callD (zmR B s.length (Int.le_trans (Int.ofNat_le.mpr hl) (by decide))) [] (.st .o l (.callD (zmU B s i hl e) [5,4,1,3,2,6] (.asIs (.fin (rfl:AV.int i = .int i)))))):Sm P.up (w3 P.up s i)) k
noncomputable def w4(P:PM T3)(s:List Nat)(i:Int):Wt:=pW P (fd 4,[]) [.str s] (.int i)
theorem zit(B:Tbl T3 P.c)(s:List Nat)(i:Int)(hl:s.length≤640)(hr:zaS s=s)(h0:(Builtin.Str.occurrences (strOf s) (strOf [95]) 0 s.length (s.length+1)).isEmpty=true)(e:zb7 s=some i)(k:K (.int i) h):za6 P.up.up.up (.glob 53) [.str s] [] h K:=by
 refine zc2 B (.st .o (bt (b:=sizeL) (lT hl (by decide))) (.st .o (hr.symm▸h0:(Builtin.Str.occurrences (strOf (zaS s)) (strOf [95]) 0 (zaS s).length ((zaS s).length+1)).isEmpty=true) (.callP (ztL B (zaS s) i (hr.symm▸hl) (hr.symm▸e)) (.asIs (.fin (rfl:AV.int i = .int i))))):Sm P.up.up (w4 P.up.up s i)) k
end
section
variable {P:PM T3} {h:Hp} {K:AV→Hp→Prop}
def zrG:FDat:=zq8 none (zah pw3 9 (some (76,102,4))).body[0]?
noncomputable def zux:List (Str×Nat):=[("n",1),("inner",2),("digits",3)]
def znJ(ds:List Int)(w:Nat):List AO:=[.clo zrG zux, .cell (some (.int w)), .cell (some (.ref 0)), .cell (some (.lst (ds.map .int)))]
def zeG(w:Nat)(ds:List Int)(L R:Nat):Int:=zbr w ((ds.drop L).take (R-L))
def w9i(P:PM T3)(ds:List Int)(w L R:Nat)(r:AV):Wt:=kW P zrG zux [.int L, .int R] (znJ ds w) r (znJ ds w)
theorem znu(L R:Nat):((L:Int)+R).fdiv (2^(1:Int).toNat)=(((L+R)/2:Nat):Int):=by
 rw [show (2:Int)^(1:Int).toNat=2 from rfl,Int.fdiv_eq_ediv_of_nonneg _ (by decide)];rfl
theorem zha{ds:List Int}{L:Nat}{d:Int}(hz:ds.length≤sizeL)(e:ds[L]? = some d):nth ((ds.map SV.int).map SV.av) (L:Int)=some (.int d):=
 zaT (by rw [List.getElem?_map,List.getElem?_map,e];rfl) (bt (by rw [List.length_map,List.length_map];exact hz))
theorem znD{L R j:Nat}(h1:L+1<R)(h3:R-L≤2^(j+1)):L<(L+R)/2∧(L+R)/2<R∧(L+R)/2-L≤2^j∧R-(L+R)/2≤2^j:=by
 obtain ⟨d,rfl⟩:=Nat.exists_eq_add_of_lt (Nat.lt_of_succ_lt h1)
 have d1:0<d:=Nat.lt_of_add_lt_add_left (n:=L+1) (Nat.add_right_comm L d 1▸h1)
 have e:(L+(L+d+1))/2=L+(d+1)/2:=by rw [Nat.add_assoc L d 1,←Nat.add_assoc,←Nat.mul_two,Nat.mul_comm,Nat.mul_add_div (by decide)]
 rw [Nat.add_assoc L d 1,Nat.add_sub_cancel_left,Nat.pow_succ] at h3
 rw [e,Nat.add_sub_cancel_left,Nat.add_assoc L d 1,Nat.add_sub_add_left]
 have q:(d+1)/2≤2^j:=Nat.div_le_of_le_mul (Nat.mul_comm 2 _▸h3)
 refine ⟨Nat.lt_add_of_pos_right (Nat.div_pos (Nat.succ_le_succ d1) (by decide)),Nat.add_lt_add_left (Nat.div_lt_self (Nat.succ_pos d) (by decide)) L,q,?_⟩
 clear h1 e
 omega
theorem zaI{n:Nat}(h:n≤900000):za3 (n:Int)=true:=zax (k:=20) (by rw [Int.natAbs_natCast];exact lE h (by decide)) (by decide)
theorem zbO(n:Nat):(n:Int).toNat=n:=Int.toNat_natCast n
theorem zku{w L m R:Nat}{ds:List Int}(m1:L<m)(m2:m<R)(h2:R≤ds.length):zeG w ds m R*2^(((m-L)*w:Nat):Int).toNat+zeG w ds L m=zeG w ds L R:=by
 unfold zeG
 have e3:(ds.drop L).take (R-L)=(ds.drop L).take (m-L)++(ds.drop m).take (R-m):=by
  have:R-L=(m-L)+(R-m):=by rw [Nat.add_comm,Nat.sub_add_sub_cancel (lO m2) (lO m1)]
  rw [this,List.take_add,List.drop_drop,Nat.add_sub_cancel' (lO m1)]
 rw [e3,zd9,List.length_take,List.length_drop,Nat.min_eq_left (Nat.sub_le_sub_right (lT (lO m2) h2) L),zbO,Nat.mul_comm (m-L) w,Int.add_comm,Int.mul_comm]
theorem zkv{w M L R:Nat}{ds:List Int}(hw:1≤w)(hM:∀d∈ds,d.natAbs≤2^M)(hs:M+w*ds.length≤900000):za3 (zeG w ds L R)=true:=
 zil hw (M:=M) (fun d hd=>hM d (List.mem_of_mem_drop (List.mem_of_mem_take hd))) (lT (Nat.add_le_add_left (Nat.mul_le_mul_left w (by rw [List.length_take,List.length_drop];exact lT (Nat.min_le_right _ _) (Nat.sub_le _ _))) M) hs)
theorem ze2{m L:Nat}(h:L<m):(m:Int)-L=((m-L:Nat):Int):=(Int.ofNat_sub (lO h)).symm
theorem zmY(B:Tbl T3 P.c)(ds:List Int)(w M:Nat)(hw:1≤w)(hM:∀d∈ds,d.natAbs≤2^M)(hs:M+w*ds.length≤900000):
  ∀(j L R:Nat),L<R→R≤ds.length→R-L≤2^j→za6 (P.lv j).up (.ref 0) [.int L, .int R] [] (Hp.of (znJ ds w)) (DK (.int (zeG w ds L R)) (znJ ds w)):=by
 have hwd:w*ds.length≤900000:=lT (Nat.le_add_left _ _) hs
 have dl:ds.length≤900000:=lT (Nat.le_mul_of_pos_left _ hw) hwd
 have base:∀(Q:PM T3),Tbl T3 Q.c→∀L,L+1≤ds.length→za6 Q.up (.ref 0) [.int L, .int (L+1:Nat)] [] (Hp.of (znJ ds w)) (DK (.int (zeG w ds L (L+1))) (znJ ds w)):=fun Q B L hl=>by
  have e:zeG w ds L (L+1)=ds[L]:=by
   unfold zeG
   rw [Nat.add_sub_cancel_left,show (ds.drop L).take 1 = [ds[L]] by rw [List.drop_eq_getElem_cons hl];rfl,zbr,zbr];simp
  rw [e]
  exact zqb B (.st (.b true) (beq_self_eq_true ((L:Int)+1)) (.st (.a (.int ds[L])) (zha (lT dl (by decide)) (List.getElem?_eq_getElem hl)) (.asIs (.endD 4 (.int ds[L]) (znJ ds w) [0,1,2,3]))):Sm Q (w9i Q ds w L (L+1) (.int ds[L])))
 intro j
 induction j with
 | zero=>
  intro L R h1 h2 h3
  obtain rfl:R=L+1:=by rw [Nat.pow_zero] at h3;lia
  exact base P B L h2
 | succ j ih=>
  intro L R h1 h2 h3
  by_cases e:R=L+1
  ·subst e;exact base (P.lv (j+1)) (P.lv_c (j+1)▸B) L h2
  have h1':L+1<R:=Nat.lt_of_le_of_ne h1 (Ne.symm e)
  have tm54:=znD h1' h3
  have m1:=tm54.1
  have m2:=tm54.2.1
  have l1:=tm54.2.2.1
  have l2:=tm54.2.2.2
  have em:=znu L R
  generalize (L+R)/2=m at*
  have mb:m-L≤ds.length:=lT (Nat.sub_le _ _) (lT (lO m2) h2)
  have sb:(m-L)*w≤900000:=lT (Nat.mul_comm w _▸Nat.mul_le_mul_left w mb) hwd
  have wb:w≤900000:=lT (Nat.le_mul_of_pos_right w (lL (Nat.zero_lt_of_lt h1) h2)) hwd
  have B':Tbl T3 (P.lv (j+1)).c:=P.lv_c (j+1)▸B
  exact zqb B' (.st (.b false) (beq_eq_false_iff_ne.mpr fun q=>e (Int.ofNat_inj.mp q).symm:((L:Int)+1==R)=false) (.st (.i m) (And.intro em (rfl:decide (0≤(1:Int))=true)) (.st (.i ((m-L)*w:Nat)) (And.intro (by rw [ze2 m1];rfl:((m:Int)-L)*w=(((m-L)*w:Nat):Int)) (an (ze2 m1▸zaI (lT mb dl):za3 ((m:Int)-L)=true) (zaI wb))) (.callD (ih m R m2 h2 l2) [0,1,2,3] (.st (.i (zeG w ds m R*2^(((m-L)*w:Nat):Int).toNat)) (And.intro (rfl:zeG w ds m R*2^(((m-L)*w:Nat):Int).toNat=zeG w ds m R*2^(((m-L)*w:Nat):Int).toNat) (an (an (dT (Int.natCast_nonneg _)) (dT (Int.ofNat_le.mpr (lT sb (by decide:900000≤1000000)))):(decide (0≤(((m-L)*w:Nat):Int))&&decide ((((m-L)*w:Nat):Int)≤1000000))=true) (zkv (L:=m) (R:=R) hw hM hs))) (.callD (ih L m m1 (lT (lO m2) h2) l1) [0,1,2,3] (.asIs (.endE 4 (.int (zeG w ds L R)) (znJ ds w) [0,1,2,3] (.int (zeG w ds m R*2^(((m-L)*w:Nat):Int).toNat+zeG w ds L m)) (congrArg AV.int (zku m1 m2 h2).symm)))))))):Sm (P.lv (j+1)) (w9i (P.lv (j+1)) ds w L R (.int (zeG w ds L R))))
def w9(P:PM T3)(ds:List Int)(w:Nat)(r:AV):Wt:=pW P (zah pw3 9 (some (76,102,4)),[]) [.lst (ds.map .int), .int w] r
theorem zmZ(B:Tbl T3 P.c)(j:Nat)(ds:List Int)(w M:Nat)(hw:1≤w)(hj:ds.length≤2^j)(hM:∀d∈ds,d.natAbs≤2^M)(hs:M+w*ds.length≤900000)(k:K (.int (zbr w ds)) h):za6 (P.lv j).up.up (.glob 81) [.lst (ds.map .int), .int w] [] h K:=by
 have dl:(ds.map SV.int).length≤sizeL:=by rw [List.length_map];exact lT (Nat.le_mul_of_pos_left _ hw) (lT (lT (Nat.le_add_left _ _) hs) (by decide))
 have C:=zmY B ds w M hw hM hs j 0 ds.length
 refine zc2 (P:=(P.lv j).up) (P.lv_c j▸B) (?_:Sm (P.lv j).up (w9 (P.lv j).up ds w (.int (zbr w ds)))) k
 induction ds using cL with
 | nil=>exact .ok (.ff (.asIs (.fin (rfl:AV.int 0 = .int 0))))
 | cons d r=>
  have e:((r.map SV.int).map SV.av).length=r.length:=by rw [List.length_map,List.length_map]
  have e2:((((r.map SV.int).map SV.av).length+1:Nat):Int)=((d :: r).length:Nat):=by rw [e];rfl
  refine .st .o (bt (b:=sizeL) (dl:(r.map SV.int).length+1≤sizeL)) (.tt (.st .o (bt (b:=sizeL) (e▸List.length_map (as:=r) SV.int▸dl:((r.map SV.int).map SV.av).length+1≤sizeL)) (.callD (f:= .ref 0) (as:= [.int (0:Nat), .int ((d :: r).length:Nat)]) (kw:= []) (C (Nat.succ_pos _) (rL _) hj) [4,2,3,1] (.asIs (.fin (congrArg AV.int (?_:zeG w (d :: r) 0 (d :: r).length=zbr w (d :: r))))) ?_)))
  ·unfold zeG;rw [Nat.sub_zero,List.drop_zero,List.take_length]
  ·rw [show (AV.int ((d :: r).length:Nat)) = .int ((((r.map SV.int).map SV.av).length+1:Nat):Int) from congrArg AV.int e2.symm]
   kernel_rfl
end
section
variable {P:PM T3} {h:Hp} {K:AV→Hp→Prop}
def zpg:FDat:=zq8 none (zah pw3 8 (some (69,87,4))).body[1]?
noncomputable def zuk:List (Str×Nat):=[("n",1),("inner",2),("a_digits",3)]
def zmq(zs:List Int)(w:Nat):List AO:=[.clo zpg zuk, .cell (some (.int w)), .cell (some (.ref 0)), .cell (some (.ref 4)), .list false (zs.map .int)]
def w8i(P:PM T3)(zs zs':List Int)(w:Nat)(x:Int)(L R:Nat):Wt:=kW P zpg zuk [.int x, .int L, .int R] (zmq zs w) .none (zmq zs' w)
theorem zlz{zs:List Int}{L:Nat}{x:Int}(h:L<zs.length):(zs.map AV.int).set (L:Int).toNat (.int x)=(zch zs L [x]).map AV.int:=by rw [←zlA h,List.map_set];rfl
theorem zrI{w L m R x:Nat}(m1:L<m)(m2:m<R)(hx:x<2^(w*(R-L))):x%2^(w*(m-L))<2^(w*(m-L))∧x/2^(w*(m-L))<2^(w*(R-m)):=by
 refine ⟨mT _ (Nat.pow_pos (by decide)),?_⟩
 rw [Nat.div_lt_iff_lt_mul (Nat.pow_pos (by decide)),←Nat.pow_add,←Nat.mul_add,Nat.sub_add_sub_cancel (lO m2) (lO m1)]
 exact hx
theorem zmE{w L m R x:Nat}{zs:List Int}(m1:L<m)(m2:m<R)(h2:R≤zs.length):zch (zch zs L (dig w (x%2^(w*(m-L))) (m-L))) m (dig w (x/2^(w*(m-L))) (R-m))=zch zs L (dig w x (R-L))∧(zch zs L (dig w (x%2^(w*(m-L))) (m-L))).length=zs.length:=by
 have el:L+(dig w (x%2^(w*(m-L))) (m-L)).length=m:=by rw [zeu,Nat.add_sub_cancel' (lO m1)]
 have:=zj2 (zs:=zs) (L:=L) (d:=dig w (x%2^(w*(m-L))) (m-L)) (e:=dig w (x/2^(w*(m-L))) (R-m)) (by rw [el,zeu,Nat.add_sub_cancel' (lO m2)];exact h2)
 rw [el] at this
 rw [this,←zfl,zlB (by rw [el];exact lT (lO m2) h2)]
 exact ⟨by congr 2;rw [Nat.add_comm,Nat.sub_add_sub_cancel (lO m2) (lO m1)],rfl⟩
theorem zmV(B:Tbl T3 P.c)(w:Nat)(hw:1≤w):
  ∀(j L R x:Nat) (zs:List Int),L<R→R≤zs.length→w*zs.length≤900000→R-L≤2^j→x<2^(w*(R-L))→za6 (P.lv j).up (.ref 0) [.int x, .int L, .int R] [] (Hp.of (zmq zs w)) (DK .none (zmq (zch zs L (dig w x (R-L))) w)):=by
 have base:∀(Q:PM T3),Tbl T3 Q.c→∀(L x:Nat) (zs:List Int),L+1≤zs.length→w*zs.length≤900000→x<2^w→za6 Q.up (.ref 0) [.int x, .int L, .int (L+1:Nat)] [] (Hp.of (zmq zs w)) (DK .none (zmq (zch zs L [(x:Int)]) w)):=fun Q B L x zs hl hz hx=>by
  have dl:zs.length≤900000:=lT (Nat.le_mul_of_pos_left _ hw) hz
  have lz:((zs.map AV.int).length)=zs.length:=List.length_map ..
  refine zqb B (.st (.b true) (beq_self_eq_true ((L:Int)+1)) (.st .o (?_:(decide (0≤(L:Int))&&decide ((L:Int)<(zs.map AV.int).length)&&Nat.ble (zs.map AV.int).length sizeL&&(false || true))=true) (.asIs (.endD 5 .none (zmq (zch zs L [(x:Int)]) w) [0,1,2,3,4] (e:=?_)))):Sm Q (w8i Q zs (zch zs L [(x:Int)]) w x L (L+1)))
  ·rw [lz];exact an (an (an (dT (Int.natCast_nonneg L)) (dT (Int.ofNat_lt.mpr hl))) (bt (lT dl (by decide)))) rfl
  ·unfold zmq;rw [←zlz hl];kernel_rfl
 intro j
 induction j with
 | zero=>
  intro L R x zs h1 h2 hz h3 hx
  obtain rfl:R=L+1:=by rw [Nat.pow_zero] at h3;lia
  rw [Nat.add_sub_cancel_left,Nat.mul_one] at hx
  rw [Nat.add_sub_cancel_left,zkq hx]
  exact base P B L x zs h2 hz hx
 | succ j ih=>
  intro L R x zs h1 h2 hz h3 hx
  have B':Tbl T3 (P.lv (j+1)).c:=P.lv_c (j+1)▸B
  by_cases e:R=L+1
  ·subst e
   rw [Nat.add_sub_cancel_left,Nat.mul_one] at hx
   rw [Nat.add_sub_cancel_left,zkq hx]
   exact base (P.lv (j+1)) B' L x zs h2 hz hx
  have tm49:=znD (Nat.lt_of_le_of_ne h1 (Ne.symm e)) h3
  have m1:=tm49.1
  have m2:=tm49.2.1
  have l1:=tm49.2.2.1
  have l2:=tm49.2.2.2
  have em:=znu L R
  generalize (L+R)/2=m at*
  have dl:zs.length≤900000:=lT (Nat.le_mul_of_pos_left _ hw) hz
  have mb:m-L≤zs.length:=lT (Nat.sub_le _ _) (lT (lO m2) h2)
  have sb:w*(m-L)≤900000:=lT (Nat.mul_le_mul_left w mb) hz
  have wb:w≤900000:=lT (Nat.le_mul_of_pos_right w (lL (Nat.zero_lt_of_lt h1) h2)) hz
  have xb:x/2^(w*(m-L))<2^(w*zs.length):=lE (Nat.div_le_self _ _) (lL hx (pR (by decide) (Nat.mul_le_mul_left _ (lT (Nat.sub_le _ _) h2))))
  have tm57:=zrI m1 m2 hx
  have x1:=tm57.1
  have x2:=tm57.2
  have tm58:=zmE (w:=w) (x:=x) m1 m2 h2
  have j1:=tm58.1
  have j2:=tm58.2
  rw [←j1]
  have c1:=ih L m _ zs m1 (lT (lO m2) h2) hz l1 x1
  have c2:=ih m R _ (zch zs L (dig w (x%2^(w*(m-L))) (m-L))) m2 (j2.symm▸h2) (j2.symm▸hz) l2 x2
  clear j1 j2 x1 x2 ih base
  generalize hs:w*(m-L)=s at*
  exact zqb B' (.st (.b false) (beq_eq_false_iff_ne.mpr fun q=>e (Int.ofNat_inj.mp q).symm:((L:Int)+1==R)=false) (.st (.i m) (And.intro em (rfl:decide (0≤(1:Int))=true)) (.st (.i s) (And.intro (by rw [ze2 m1,←hs,Nat.mul_comm];rfl:((m:Int)-L)*w=(s:Int)) (an (ze2 m1▸zaI (lT mb dl):za3 ((m:Int)-L)=true) (zaI wb)))
   (.st (.i (x/2^s:Nat)) (And.intro (zb8 x s) (dT (Int.natCast_nonneg s))) (.st (.i (x/2^s*2^s:Nat)) (And.intro (zbu (x/2^s) s) (an (an (dT (Int.natCast_nonneg s)) (dT (Int.ofNat_le.mpr (lT sb (by decide:900000≤1000000)))):(decide (0≤(s:Int))&&decide ((s:Int)≤1000000))=true) (zax (k:=w*zs.length) (by rw [Int.natAbs_natCast];exact xb) (lT hz (by decide))))) (.st (.i (x%2^s:Nat)) (And.intro (zo5 x s) (rfl:true=true))
   (.callD c1 [0,1,2,3,4] (.callD c2 [0,1,2,3,4] (.endD 5 .none (zmq (zch (zch zs L (dig w (x%2^s) (m-L))) m (dig w (x/2^s) (R-m))) w) [0,1,2,3,4])))))))):Sm (P.lv (j+1)) (w8i (P.lv (j+1)) zs (zch (zch zs L (dig w (x%2^s) (m-L))) m (dig w (x/2^s) (R-m))) w x L R))
noncomputable def zqV(N:Nat):List AV:=(List.replicate (N:Int).toNat [AV.int 0]).flatten
theorem zj9(N:Nat):zqV N=(List.replicate N (0:Int)).map AV.int:=zdl N
theorem zgH(N:Nat):(zqV N).length=N:=by rw [zj9,List.length_map,List.length_replicate]
def w8(P:PM T3)(x:Int)(w:Nat)(r:List Int):Wt:=dW P (zah pw3 8 (some (69,87,4)),[]) [.int x, .int w] [] [] (.ref 0) [.list false (r.map .int)]
theorem zgT{w x:Nat}(hw:1≤w):(zas (x:Int)+w-1).fdiv w=((zcR w x:Nat):Int):=by
 rw [zbl,Int.fdiv_eq_ediv_of_nonneg _ (Int.natCast_nonneg w)]
 unfold zcR
 rw [Int.natCast_ediv];congr 1;lia
theorem zs4(l:List Int):(l.map SV.int).map SV.av=l.map AV.int:=by rw [List.map_map];rfl
theorem zrV(B:Tbl T3 P.c)(j:Nat)(x w:Nat)(hw:1≤w)(hj:zcR w x≤2^j)(hs:zaC x+w≤900000):za6 (P.lv j).up.up (.glob 74) [.int x, .int w] [] (Hp.of []) (DK (.ref 0) [.list false ((dig w x (zcR w x)).map .int)]):=by
 have hz:w*zcR w x≤900000:=lT zjI hs
 have hm:zcR w x≤900000:=lT (Nat.le_mul_of_pos_left _ hw) hz
 have g0:((w:Int) != 0 && !Builtin.divisionGoesByPylong (zas (x:Int)+w-1) w)=true:=by
  rw [zd5 (by rw [Int.natAbs_natCast];exact lE (lT (Nat.le_add_left _ _) hs) (by decide))]
  exact an (bne_iff_ne.mpr fun q=>absurd (Int.ofNat_inj.mp q) (Nat.ne_of_gt hw)) rfl
 have B':Tbl T3 (P.lv j).up.c:=P.lv_c j▸B
 refine zb0 (P:=(P.lv j).up) B' (?_:Sm (P.lv j).up (w8 (P.lv j).up x w (dig w x (zcR w x))))
 by_cases h0:x=0
 ·subst h0
  have e0:zcR w 0=0:=by
   unfold zcR zaC
   rw [if_pos rfl]
   exact Nat.div_eq_of_lt (by omega)
  have em:=zgT (x:=0) hw
  rw [e0] at em⊢
  exact .tt (.st (.i (0:Nat)) (And.intro em g0) (.ok (.ff (.asIs (.endD 0 (.ref 0) [.list false []] [5])))))
 ·have hC:=fun hnd=>zmV B w hw j 0 (zcR w x) x (List.replicate (zcR w x) 0) hnd (by rw [List.length_replicate];exact rL _) (by rw [List.length_replicate];exact hz) hj (zg6 hw)
  have em:=zgT (x:=x) hw
  have hi:=zg6 (w:=w) (x:=x) hw
  generalize zcR w x=N at*
  have hnd:0<N:=Nat.pos_of_ne_zero fun q=>h0 (by subst q;simpa using hi)
  have eS:zch (List.replicate N 0) 0 (dig w x (N-0))=dig w x N:=zlC (by rw [Nat.sub_zero,zeu,List.length_replicate])
  have lz:(zqV N).length≤sizeL:=by rw [zgH];exact lT hm (by decide)
  refine .tt (.st (.i N) (And.intro em g0) (.st .o (an (bt (?_:1*(N:Int).toNat≤sizeL)) (dT (?_:(N:Int).natAbs<2^62))) (.st (.b true) (bne_iff_ne.mpr fun q=>h0 (Int.ofNat_inj.mp q):((x:Int) != 0)=true) (.st .o (bt (b:=sizeL) lz) (.callD (hC hnd) [6,1,3,2,5] (.asIs (.endD 0 (.ref 0) [.list false ((dig w x N).map .int)] [5] (e:=?_))) (e:=?_) (e1:=?_))))))
  ·rw [Nat.one_mul,zbO];exact lT hm (by decide)
  ·rw [Int.natAbs_natCast];exact lE hm (by decide)
  ·refine Eq.trans (b:= [AO.list false ((zch (List.replicate N 0) 0 (dig w x (N-0))).map .int)]) (by kernel_rfl) ?_
   rw [eS];rfl
  ·refine Eq.trans (b:=some (AV.ref 6, [AV.int x, .int (0:Nat), .int ((zqV N).length:Nat)], [])) (by kernel_rfl) ?_
   rw [zgH];rfl
  ·refine Eq.trans (b:= [AO.clo zpg [("n",1),("inner",3),("a_digits",2)], .cell (some (.int w)), .cell (some (.ref 6)), .cell (some (.ref 5)), .list false (zqV N)]) (by kernel_rfl) ?_
   rw [zj9];rfl
end
section
variable {P:PM T3} {h:Hp} {K:AV→Hp→Prop}
noncomputable def zcv(q r:Int):AV:= .tup [.int q, .int r]
theorem zut{A b:Nat}{q r:Int}(hq:q*b+r=A)(h0:0≤r)(h1:r<b):zcv q r=zcv ((A/b:Nat):Int) ((A%b:Nat):Int):=by
 obtain ⟨e1,e2⟩:=divU hq h0 h1
 rw [e1,e2]
noncomputable def H7(b:Nat)(s:Int×Int):Hp:= .of [.frame [("q", .int s.1),("r", .int s.2),("b", .int b)]]
def R7(A b:Nat)(s:Int×Int):Prop:=s.1*b+s.2=A∧s.2<b
noncomputable def m7(s:Int×Int):Nat:=(-s.2).toNat
noncomputable def w7(P:PM T3)(a12 a3 b B1 B2 n:Nat)(r:AV):Wt:=pW P (fd 7,[]) [.int a12, .int a3, .int b, .int B1, .int B2, .int n] r
def zle(P:PM T3)(j:Nat):Prop:=∀(n a b:Nat) {h:Hp} {K:AV→Hp→Prop},2^(n-1)≤b→b<2^n→0<n→a<b*2^n→n≤4000*2^j→n≤300000→K (zcv (a/b:Nat) (a%b:Nat)) h→za6 (P.lv (2*j)).up (.glob 60) [.int a, .int b, .int n] [] h K
theorem zuv{b:Nat}{s:Int×Int}(hb:0<b)(c:s.2<0):m7 (s.1-1,s.2+b)<m7 s:=by
 show (-(s.2+b)).toNat<(-s.2).toNat
 exact (Int.toNat_lt_toNat (Int.neg_pos.mpr c)).mpr (Int.neg_lt_neg (Int.lt_add_of_pos_right _ (Int.natCast_pos.mpr hb)))
theorem zuw{A b:Nat}{s:Int×Int}(z:R7 A b s)(c:s.2<0):R7 A b (s.1-1,s.2+b):=by
 refine ⟨?_,(Int.lt_of_lt_of_le (Int.add_lt_add_right c b) (Int.le_of_eq (Int.zero_add (b:Int))):s.2+b<b)⟩
 show (s.1-1)*b+(s.2+b)=A
 rw [←z.1,Int.sub_mul,Int.one_mul];lia
theorem zrF{a12 q r B1 B2 p b a3:Nat}(h:a12=q*B1+r)(eb:B1*p+B2=b):(q:Int)*b+(((r*p+a3:Nat):Int)-q*B2)=((a12*p+a3:Nat):Int):=by
 subst h eb
 push_cast
 rw [Int.mul_add,Int.add_mul,Int.mul_assoc];lia
theorem zrD{a12 a3 b B1 B2 p:Nat}(hp:0<p)(c:a12/p=B1)(h12:a12<b)(eb:B1*p+B2=b)(hB2:B2<p)(hA:a12*p+a3<b*p):a12=(p-1)*B1+(a12-B1*p+B1)∧((p:Int)-1=((p-1:Nat):Int))∧(a12:Int)-((B1*p:Nat):Int)+B1=((a12-B1*p+B1:Nat):Int)∧(((a12-B1*p+B1)*p+a3:Nat):Int)-((p:Int)-1)*B2<b:=by
 have hX:B1*p≤a12:=by rw [←c];exact Nat.div_mul_le_self a12 p
 have h5:B1≤B1*p:=Nat.le_mul_of_pos_right _ hp
 have e1:a12=(p-1)*B1+(a12-B1*p+B1):=by
  rw [Nat.sub_mul,Nat.one_mul,Nat.mul_comm p B1,Nat.add_comm (a12-_) B1,←Nat.add_assoc,Nat.sub_add_cancel h5,Nat.add_sub_cancel' hX]
 have e6:(p:Int)-1=((p-1:Nat):Int):=(Int.ofNat_sub hp).symm
 refine ⟨e1,e6,by rw [Int.natCast_add,Int.ofNat_sub hX],?_⟩
 clear hX h5 c h12
 generalize a12-B1*p+B1=r at*
 have hA':((a12*p+a3:Nat):Int)<((b*p:Nat):Int):=Int.ofNat_lt.mpr hA
 rw [e1,←eb] at hA'
 push_cast at hA'⊢
 rw [←e6] at hA'
 rw [←eb]
 push_cast
 generalize (p:Int)=Q at*
 have h9:((Q-1)*B1+r)*Q+a3=Q*(B1*Q)-B1*Q+r*Q+a3:=by
  rw [Int.add_mul,Int.sub_mul,Int.sub_mul,Int.one_mul,Int.mul_assoc]
 have h10:(B1*Q+B2)*Q=Q*(B1*Q)+Q*B2:=by rw [Int.mul_comm,Int.mul_add]
 rw [h9,h10] at hA'
 rw [Int.sub_mul,Int.one_mul]
 omega
theorem zrE{a12 a3 b B1 B2 p:Nat}(hp:0<p)(h3:a3<p)(c:a12/p≤B1)(c2:a12/p≠B1)(eb:B1*p+B2=b):a12<B1*p∧a12=a12/B1*B1+a12%B1∧a12/B1<p∧a12%B1<B1∧((a12%B1*p+a3:Nat):Int)-(a12/B1:Nat)*B2<b:=by
 have q3:a12<B1*p:=by rw [←Nat.div_lt_iff_lt_mul hp];exact Nat.lt_of_le_of_ne c c2
 have pB:0<B1:=Nat.pos_of_ne_zero fun z=>by subst z;rw [Nat.zero_mul] at q3;exact absurd q3 (zN _)
 have h8:a12%B1<B1:=mT _ pB
 refine ⟨q3,by rw [Nat.mul_comm];exact (Nat.div_add_mod a12 B1).symm,by rw [Nat.div_lt_iff_lt_mul pB,Nat.mul_comm];exact q3,h8,?_⟩
 have h9:(a12%B1+1)*p≤B1*p:=Nat.mul_le_mul_right _ h8
 rw [Nat.add_mul,Nat.one_mul] at h9
 have h10:(0:Int)≤((a12/B1:Nat):Int)*B2:=Int.mul_nonneg (Int.natCast_nonneg _) (Int.natCast_nonneg _)
 omega
theorem znU(B:Tbl T3 P.c){j:Nat}(ih:zle P j)(n a12 a3 b:Nat)(hn:0<n)(hb1:2^(n-1)≤b/2^n)(hb2:b<2^(n+n))(h3:a3<2^n)(hA:a12*2^n+a3<b*2^n)(hj:n≤4000*2^j)(hl:n≤300000)
  (k:K (zcv ((a12*2^n+a3)/b:Nat) ((a12*2^n+a3)%b:Nat)) h):za6 (P.lv (2*j+1)).up (.glob 67) [.int a12, .int a3, .int b, .int (b/2^n:Nat), .int (b%2^n:Nat), .int n] [] h K:=by
 have pn:0<2^n:=Nat.pow_pos (by decide)
 have a12b:a12<b:=by
  rcases Nat.lt_or_ge a12 b with q | q
  ·exact q
  ·exact absurd hA (Nat.not_lt_of_le (lT (Nat.mul_le_mul_right (2^n) q) (Nat.le_add_right _ _)))
 have hbb:b/2^n<2^n:=by rw [Nat.div_lt_iff_lt_mul pn,←Nat.pow_add];exact hb2
 have sm:∀x:Nat,x<2^(n+n)→za3 (x:Int)=true:=fun x hx=>zax (k:=n+n) (by rw [Int.natAbs_natCast];exact hx) (lT (jD hl hl) (by decide))
 have eb:b/2^n*2^n+b%2^n=b:=by rw [Nat.mul_comm];exact Nat.div_add_mod b (2^n)
 have hdiv:a12/2^n≤b/2^n:=Nat.div_le_div_right (lO a12b)
 generalize hB1:b/2^n=B1 at*
 generalize hB2:b%2^n=B2 at*
 have hB2l:B2<2^n:=by rw [←hB2];exact mT _ pn
 have hb0:0<b:=lE (Nat.zero_le _) a12b
 have nn:(decide (0≤(n:Int))&&decide ((n:Int)≤1000000))=true:=an (dT (Int.natCast_nonneg n)) (dT (Int.ofNat_le.mpr (lT hl (by decide:300000≤1000000))))
 generalize hAe:a12*2^n+a3=A at*
 have B':Tbl T3 (P.lv (2*j+1)).c:=P.lv_c (2*j+1)▸B
 have pl:2^n<2^(n+n):=Nat.pow_lt_pow_right (by decide) (Nat.lt_add_of_pos_left hn)
 have sB2:B2<2^(n+n):=Nat.lt_trans hB2l pl
 have hA':a12*2^n+a3<b*2^n:=hAe.symm▸hA
 refine zc2 (P:=P.lv (2*j+1)) B' (?_:Sm (P.lv (2*j+1)) (w7 (P.lv (2*j+1)) a12 a3 b B1 B2 n (zcv (A/b:Nat) (A%b:Nat)))) k
 refine (let ww:Wt:=_;(?_:Sm _ ww))
 refine .st (.i (a12/2^n:Nat)) (And.intro (zb8 a12 n) (dT (Int.natCast_nonneg n))) ?_
 rcases fT (((a12/2^n:Nat):Int)==(B1:Int)) with c | c
 ·have tm86:=zrD pn (Int.ofNat_inj.mp (eq_of_beq c)) a12b eb hB2l hA'
  have f1:=tm86.1
  have f2:=tm86.2.1
  have f3:=tm86.2.2.1
  have f4:=tm86.2.2.2
  have fr:a12-B1*2^n+B1<2^(n+n):=lE (lT (Nat.le_add_left _ _) (Nat.le_of_eq f1.symm)) (Nat.lt_trans a12b hb2)
  refine (let ww:Wt:=_;(?_:Sm _ ww))
  exact .st (.b true) c (.st (.i (2^n:Nat)) (And.intro (by rw [Int.one_mul,zbO];push_cast;rfl:(1:Int)*2^(n:Int).toNat=((2^n:Nat):Int)) (an nn (rfl:za3 1=true))) (.st (.i (B1*2^n:Nat)) (And.intro (zbu B1 n) (an nn (sm B1 (Nat.lt_trans hbb pl)))) (.st (.i ((a12-B1*2^n+B1)*2^n:Nat)) (And.intro (by rw [f3];exact zbu (a12-B1*2^n+B1) n:((a12:Int)-((B1*2^n:Nat):Int)+B1)*2^(n:Int).toNat=(((a12-B1*2^n+B1)*2^n:Nat):Int)) (an nn (by rw [f3];exact sm (a12-B1*2^n+B1) fr:za3 ((a12:Int)-((B1*2^n:Nat):Int)+B1)=true))) (.st (.i ((a12-B1*2^n+B1)*2^n+a3:Nat)) (And.intro (zgL (a12-B1*2^n+B1) h3) (rfl:true=true)) (.st (.i ((((2^n:Nat):Int)-1)*(B2:Int))) (And.intro (rfl:(((2^n:Nat):Int)-1)*(B2:Int)=(((2^n:Nat):Int)-1)*(B2:Int)) (an (by rw [f2];exact sm (2^n-1) (lE (Nat.sub_le _ _) pl):za3 (((2^n:Nat):Int)-1)=true) (sm B2 sB2)))
   (.whl B' 1 (H7 b) m7 (R7 A b) ((((2^n:Nat):Int)-1),(((a12-B1*2^n+B1)*2^n+a3:Nat):Int)-(((2^n:Nat):Int)-1)*(B2:Int)) (.to 0 [("q", .int (((2^n:Nat):Int)-1)),("r", .int ((((a12-B1*2^n+B1)*2^n+a3:Nat):Int)-(((2^n:Nat):Int)-1)*(B2:Int))),("b", .int b)]) ⟨(hAe▸f2.symm▸zrF f1 eb),f4⟩ fun s z=>(fT (decide (s.2<0))).elim
    (fun c=> .st (.b true) c (.nextI 1 (H7 b) m7 (R7 A b) (m7 s) (s.1-1,s.2+b) (.to 0 [("q", .int (s.1-1)),("r", .int (s.2+b)),("b", .int b)]) (zuv hb0 (oD c)) (zuw z (oD c))))
    fun c=> .st (.b false) c (.asIs (.fin (zut z.1 (Int.not_lt.mp (of_decide_eq_false c)) z.2)))))))))
 ·have tm93:=zrE pn h3 hdiv (fun e=>by rw [e,beq_self_eq_true] at c;cases c) eb
  have f1:=tm93.1
  have f2:=tm93.2.1
  have f3:=tm93.2.2.1
  have f4:=tm93.2.2.2.1
  have f5:=tm93.2.2.2.2
  refine (let ww:Wt:=_;(?_:Sm _ ww))
  exact .st (.b false) c (.callP (ih n a12 B1 hb1 hbb hn f1 hj hl) (.st (.i ((a12%B1)*2^n:Nat)) (And.intro (zbu (a12%B1) n:((a12%B1:Nat):Int)*2^(n:Int).toNat=(((a12%B1)*2^n:Nat):Int)) (an nn (sm (a12%B1) (Nat.lt_trans (Nat.lt_trans f4 hbb) pl):za3 ((a12%B1:Nat):Int)=true))) (.st (.i ((a12%B1)*2^n+a3:Nat)) (And.intro (zgL (a12%B1) h3) (rfl:true=true)) (.st (.i (((a12/B1:Nat):Int)*(B2:Int))) (And.intro (rfl:((a12/B1:Nat):Int)*(B2:Int)=((a12/B1:Nat):Int)*(B2:Int)) (an (sm (a12/B1) (Nat.lt_trans f3 pl):za3 ((a12/B1:Nat):Int)=true) (sm B2 sB2)))
   (.whl B' 1 (H7 b) m7 (R7 A b) (((a12/B1:Nat):Int),(((a12%B1)*2^n+a3:Nat):Int)-((a12/B1:Nat):Int)*(B2:Int)) (.to 0 [("q", .int ((a12/B1:Nat):Int)),("r", .int ((((a12%B1)*2^n+a3:Nat):Int)-((a12/B1:Nat):Int)*(B2:Int))),("b", .int b)]) ⟨(hAe▸zrF f2 eb),f5⟩ fun s z=>(fT (decide (s.2<0))).elim
    (fun c=> .st (.b true) c (.nextI 1 (H7 b) m7 (R7 A b) (m7 s) (s.1-1,s.2+b) (.to 0 [("q", .int (s.1-1)),("r", .int (s.2+b)),("b", .int b)]) (zuv hb0 (oD c)) (zuw z (oD c))))
    fun c=> .st (.b false) c (.asIs (.fin (zut z.1 (Int.not_lt.mp (of_decide_eq_false c)) z.2))))))))
end
section
variable {P:PM T3} {h:Hp} {K:AV→Hp→Prop}
noncomputable def w6(P:PM T3)(a b n:Nat)(r:AV):Wt:=pW P (fd 6,[]) [.int a, .int b, .int n] r
theorem zaX(x h:Nat):Builtin.bitAnd (x:Int) (((2^h:Nat):Int)-1)=((x%2^h:Nat):Int):=by
 rw [←zlY,Int.ofNat_sub (Nat.pow_pos (by decide))];rfl
theorem zen(n:Nat):(n:Int).fdiv (2^(1:Int).toNat)=((n/2:Nat):Int):=by
 rw [show (2:Int)^(1:Int).toNat=2 from rfl,Int.fdiv_eq_ediv_of_nonneg _ (by decide)];rfl
theorem ziF(x:Nat):(x:Int)*2^(1:Int).toNat=((x*2:Nat):Int):=by
 rw [show (2:Int)^(1:Int).toNat=2 from rfl];push_cast;rfl
theorem zhD{n e:Nat}(h:n%2=e):Builtin.bitAnd (n:Int) 1=(e:Int):=by
 have:=zcc n 1
 rw [Nat.and_one_is_mod,h] at this
 exact this
theorem dvm(a b:Nat):AV.tup [.int ((a:Int).fdiv b), .int ((a:Int).fmod b)]=zcv (a/b:Nat) (a%b:Nat):=by rw [zhl,zhj];rfl
structure Half(h a b:Nat):Prop where
 k1:2^(h-1)≤b/2^h
 k2:a/2^(h+h)*2^h+a/2^h%2^h<b*2^h
 k3:a/2^h%b*2^h+a%2^h<b*2^h
 m1:a/2^h%2^h<2^h
 m2:a%2^h<2^h
 q1:a/2^h/b<2^h
 q2:(a/2^h%b*2^h+a%2^h)/b<2^h
theorem zka{h a b:Nat}(hb:2^(h+h-1)≤b)(ha:a<b*2^(h+h))(hh:0<h):Half h a b:=by
 have p2:0<2^h:=Nat.pow_pos (by decide)
 have pb:0<b:=lL (Nat.pow_pos (by decide)) hb
 have k2:a/2^h<b*2^h:=by rw [Nat.div_lt_iff_lt_mul p2,Nat.mul_assoc,←Nat.pow_add];exact ha
 have k3:a/2^h%b*2^h+a%2^h<b*2^h:=by
  have h2:(a/2^h%b+1)*2^h≤b*2^h:=Nat.mul_le_mul_right _ (mT _ pb)
  rw [Nat.add_mul,Nat.one_mul] at h2
  exact lL (Nat.add_lt_add_left (mT _ p2) _) h2
 exact ⟨by rw [Nat.le_div_iff_mul_le p2,←Nat.pow_add,←Nat.sub_add_comm hh];exact hb,by rw [zgB];exact k2,k3,mT _ p2,mT _ p2,by rw [Nat.div_lt_iff_lt_mul pb,Nat.mul_comm (2^h) b];exact k2,by rw [Nat.div_lt_iff_lt_mul pb,Nat.mul_comm (2^h) b];exact k3⟩
theorem zjx(k:Nat):(1:Int)*2^(k:Int).toNat=((2^k:Nat):Int):=by rw [Int.one_mul,zbO];push_cast;rfl
theorem zkp(B:Tbl T3 P.c){j k A D:Nat}(ih:zle P j)(hk:0<k)(hb:2^(k+k-1)≤D)(hb2:D<2^(k+k))(f:Half k A D)(hj:k≤4000*2^j)(hl:k≤200000):
  (∀{h:Hp} {K:AV→Hp→Prop},K (zcv (A/2^k/D:Nat) (A/2^k%D:Nat)) h→za6 (P.lv (2*j+1)).up (.glob 67) [.int (A/2^(k+k):Nat), .int (A/2^k%2^k:Nat), .int D, .int (D/2^k:Nat), .int (D%2^k:Nat), .int k] [] h K)∧
  (∀{h:Hp} {K:AV→Hp→Prop},K (zcv ((A/2^k%D*2^k+A%2^k)/D:Nat) ((A/2^k%D*2^k+A%2^k)%D:Nat)) h→za6 (P.lv (2*j+1)).up (.glob 67) [.int (A/2^k%D:Nat), .int (A%2^k:Nat), .int D, .int (D/2^k:Nat), .int (D%2^k:Nat), .int k] [] h K):=by
 refine ⟨fun {h K} g=>?_,fun {h K} g=>znU B ih k (A/2^k%D) (A%2^k) D hk f.k1 hb2 f.m2 f.k3 hj (lT hl (by decide)) g⟩
 refine znU B ih k (A/2^(k+k)) (A/2^k%2^k) D hk f.k1 hb2 f.m1 f.k2 hj (lT hl (by decide)) ?_
 rw [zgB];exact g
theorem zjt{n a b k:Nat}(e:n+1=k+k)(hn:0<n)(hb1:2^(n-1)≤b)(hb2:b<2^n)(ha:a<b*2^n):2^(k+k-1)≤b*2∧b*2<2^(k+k)∧a*2<b*2*2^(k+k):=by
 have p1:2^(k+k)=2^n*2:=by rw [←e,Nat.pow_succ]
 have p2:2^(k+k-1)=2^(n-1)*2:=by rw [←Nat.pow_succ,←e];congr 1;lia
 rw [p1,p2]
 refine ⟨Nat.mul_le_mul_right 2 hb1,Nat.mul_lt_mul_of_pos_right hb2 (by decide),?_⟩
 rw [Nat.mul_right_comm,←Nat.mul_assoc]
 exact lL (Nat.mul_lt_mul_of_pos_right ha (by decide)) (Nat.le_mul_of_pos_right _ (by decide))
theorem zpn{n:Nat}(e:n%2=0):n=n/2+n/2:=by omega
theorem zoO{n:Nat}(e:n%2=1):n+1=(n+1)/2+(n+1)/2:=by omega
theorem hf_z{l n:Nat}(h:l≤n+n)(hj:n≤4000*1):(l:Int)-n≤4000:=by omega
theorem zul{k:Nat}(h:0<k+k):0<k:=Nat.pos_of_ne_zero fun z=>by subst z;exact absurd h (Nat.lt_irrefl 0)
theorem zsr{k X:Nat}(h:k+k≤X+X+1):k≤X:=by omega
theorem zrX(B:Tbl T3 P.c):∀j,zle P j:=by
 have main:∀j,(∀j',j=j'+1→zle P j')→zle P j:=by
  intro j ihj n a b h K hb1 hb2 hn ha hj hl k0
  refine zc2 (P:=P.lv (2*j)) (P.lv_c (2*j)▸B) (?_:Sm (P.lv (2*j)) (w6 (P.lv (2*j)) a b n (zcv (a/b:Nat) (a%b:Nat)))) k0
  have pb:0<b:=lL (Nat.pow_pos (by decide)) hb1
  rcases fT (decide (zas (a:Int)-(n:Int)≤4000)) with c | c
  ·exact .st (.b true) c (.st .o (an (bne_iff_ne.mpr fun q=>absurd (Int.ofNat_inj.mp q) (Nat.ne_of_gt pb)) (Bool.not_eq_true' _▸zmw hb1 hn (by have c:=oD c;rwa [zbl] at c)):((b:Int) != 0 && !Builtin.divisionGoesByPylong (a:Int) (b:Int))=true) (.asIs (.fin (dvm a b))))
  refine (let ww:Wt:=_;(?_:Sm _ ww))
  refine .st (.b false) c ?_
  induction j using Nat.casesOn with
  | zero=>
   have bl:zaC a≤n+n:=zeC (lL ha (by rw [Nat.pow_add];exact Nat.mul_le_mul_right _ (lO hb2)))
   have c:=of_decide_eq_false c
   rw [zbl] at c
   rw [Nat.pow_zero] at hj
   exact absurd (hf_z bl hj) c
  | succ j=>
   have ih:=ihj j rfl
   have hj2:n≤4000*2^j+4000*2^j:=by rwa [Nat.pow_succ,←Nat.mul_assoc,Nat.mul_two] at hj
   rcases Nat.mod_two_eq_zero_or_one n with e0 | e0
   ·obtain ⟨k,hk⟩:∃k,n=k+k:=⟨n/2,zpn e0⟩
    have ep:=zhD e0
    subst hk
    have kp:=zul hn
    have kl:k≤200000:=zsr (lT hl (by decide))
    have f:=zka hb1 ha kp
    obtain ⟨C1,C2⟩:=zkp B ih kp hb1 hb2 f (zsr (Nat.le_succ_of_le hj2)) kl
    obtain ⟨s1,s2⟩:=zko a b k
    have nn:(decide (0≤(k:Int))&&decide ((k:Int)≤1000000))=true:=an (dT (Int.natCast_nonneg k)) (dT (Int.ofNat_le.mpr (lT kl (by decide:200000≤1000000))))
    have k0:=dT (Int.natCast_nonneg k)
    have e2:zcv ((a/2^k/b*2^k+(a/2^k%b*2^k+a%2^k)/b:Nat)) ((a/2^k%b*2^k+a%2^k)%b:Nat)=zcv (a/b:Nat) (a%b:Nat):=by rw [s1,s2]
    have hh:((k+k:Nat):Int).fdiv (2^(1:Int).toNat)=(k:Int):=by rw [zen,←Nat.two_mul,Nat.mul_div_cancel_left _ (by decide)]
    have kl:=lT kl (by decide:200000≤1000000)
    refine (let ww:Wt:=_;(?_:Sm _ ww))
    exact .st (.i (0:Nat)) (And.intro ep (rfl:true=true)) (.ff (.st (.i (k:Nat)) (And.intro hh (rfl:decide (0≤(1:Int))=true)) (.st (.i (2^k:Nat)) (And.intro (zjx k) (an nn (rfl:za3 1=true))) (.st (.i (b/2^k:Nat)) (And.intro (zb8 b k) k0) (.st (.i (b%2^k:Nat)) (And.intro (zaX b k) (rfl:true=true)) (.st (.i (a/2^(k+k):Nat)) (And.intro (zb8 a (k+k)) (dT (Int.natCast_nonneg (k+k)))) (.st (.i (a/2^k:Nat)) (And.intro (zb8 a k) k0) (.st (.i (a/2^k%2^k:Nat)) (And.intro (zaX (a/2^k) k) (rfl:true=true))
   (.callP C1 (.st (.i (a%2^k:Nat)) (And.intro (zaX a k) (rfl:true=true)) (.callP C2 (.ff (.st (.i (a/2^k/b*2^k:Nat)) (And.intro (zbu (a/2^k/b) k) (an nn (zax (k:=k) (by rw [Int.natAbs_natCast];exact f.q1) kl))) (.st (.i (a/2^k/b*2^k+(a/2^k%b*2^k+a%2^k)/b:Nat)) (And.intro (zgL (a/2^k/b) f.q2) (rfl:true=true)) (.asIs (.fin e2))))))))))))))))
   ·obtain ⟨k,hk⟩:∃k,n+1=k+k:=⟨(n+1)/2,zoO e0⟩
    have ep:=zhD e0
    obtain ⟨g1,g2,g3⟩:=zjt hk hn hb1 hb2 ha
    have kp:=zul (hk▸Nat.succ_pos n:0<k+k)
    have kl:k≤200000:=zsr (hk▸Nat.succ_le_succ (lT hl (by decide)):k+k≤200000+200000+1)
    have f:=zka g1 g3 kp
    obtain ⟨C1,C2⟩:=zkp B ih kp g1 g2 f (zsr (hk▸Nat.succ_le_succ hj2:k+k≤4000*2^j+4000*2^j+1)) kl
    obtain ⟨s1,s2⟩:=zko (a*2) (b*2) k
    have nn:(decide (0≤(k:Int))&&decide ((k:Int)≤1000000))=true:=an (dT (Int.natCast_nonneg k)) (dT (Int.ofNat_le.mpr (lT kl (by decide:200000≤1000000))))
    have k0:=dT (Int.natCast_nonneg k)
    have e2:zcv ((a*2/2^k/(b*2)*2^k+(a*2/2^k%(b*2)*2^k+a*2%2^k)/(b*2):Nat)) ((a*2/2^k%(b*2)*2^k+a*2%2^k)%(b*2)/2:Nat)=zcv (a/b:Nat) (a%b:Nat):=by
     rw [s1,s2,Nat.mul_div_mul_right _ _ (by decide),Nat.mul_mod_mul_right,Nat.mul_div_cancel _ (by decide)]
    have en:(n:Int)+1=((k+k:Nat):Int):=congrArg Nat.cast hk
    have hh:((n:Int)+1).fdiv (2^(1:Int).toNat)=(k:Int):=by rw [en,zen,←Nat.two_mul,Nat.mul_div_cancel_left _ (by decide)]
    have hs:((a*2:Nat):Int).fdiv (2^((n:Int)+1).toNat)=((a*2/2^(k+k):Nat):Int):=by rw [en];exact zb8 (a*2) (k+k)
    have hn':decide (0≤(n:Int)+1)=true:=by rw [en];exact dT (Int.natCast_nonneg (k+k))
    have kl:=lT kl (by decide:200000≤1000000)
    have sm:∀x:Nat,x<2^(n+n)→za3 (x:Int)=true:=fun x hx=>zax (k:=n+n) (by rw [Int.natAbs_natCast];exact hx) (lT (jD hl hl) (by decide))
    have sb:b<2^(n+n):=lL hb2 (pR (by decide) (Nat.le_add_left n n))
    have sa:a<2^(n+n):=lL ha (by rw [Nat.pow_add];exact Nat.mul_le_mul_right _ (lO hb2))
    have n1:(decide (0≤(1:Int))&&decide ((1:Int)≤1000000))=true:=rfl
    refine (let ww:Wt:=_;(?_:Sm _ ww))
    exact .st (.i (1:Nat)) (And.intro ep (rfl:true=true)) (.tt (.st (.i (a*2:Nat)) (And.intro (ziF a) (an n1 (sm a sa))) (.st (.i (b*2:Nat)) (And.intro (ziF b) (an n1 (sm b sb))) (.st (.i (k:Nat)) (And.intro hh (rfl:decide (0≤(1:Int))=true)) (.st (.i (2^k:Nat)) (And.intro (zjx k) (an nn (rfl:za3 1=true))) (.st (.i ((b*2)/2^k:Nat)) (And.intro (zb8 (b*2) k) k0) (.st (.i ((b*2)%2^k:Nat)) (And.intro (zaX (b*2) k) (rfl:true=true)) (.st (.i ((a*2)/2^(k+k):Nat)) (And.intro hs hn') (.st (.i ((a*2)/2^k:Nat)) (And.intro (zb8 (a*2) k) k0) (.st (.i ((a*2)/2^k%2^k:Nat)) (And.intro (zaX ((a*2)/2^k) k) (rfl:true=true))
   (.callP C1 (.st (.i ((a*2)%2^k:Nat)) (And.intro (zaX (a*2) k) (rfl:true=true)) (.callP C2 (.tt (.st (.i (((a*2)/2^k%(b*2)*2^k+(a*2)%2^k)%(b*2)/2:Nat)) (And.intro (zen (((a*2)/2^k%(b*2)*2^k+(a*2)%2^k)%(b*2))) (rfl:decide (0≤(1:Int))=true)) (.st (.i ((a*2)/2^k/(b*2)*2^k:Nat)) (And.intro (zbu ((a*2)/2^k/(b*2)) k) (an nn (zax (k:=k) (by rw [Int.natAbs_natCast];exact f.q1) kl))) (.st (.i ((a*2)/2^k/(b*2)*2^k+((a*2)/2^k%(b*2)*2^k+(a*2)%2^k)/(b*2):Nat)) (And.intro (zgL ((a*2)/2^k/(b*2)) f.q2) (rfl:true=true)) (.asIs (.fin e2)))))))))))))))))))
 intro j
 induction j with
 | zero=>exact main 0 (fun X h=>by cases h)
 | succ j ih=>exact main (j+1) fun j' e=>Nat.succ.inj e▸ih
end
noncomputable def zlf(n:Nat):List Nat→Nat
 | []=>0
 | d :: r=>d+2^n*zlf n r
noncomputable def nI(l:List Nat):List Int:=l.map fun (x:Nat)=>(x:Int)
theorem zes(n:Nat):∀l:List Nat,zbr n (nI l)=(zlf n l:Int)
 | []=>rfl
 | d :: r=>by unfold nI;rw [List.map_cons,zbr,zlf];have:=zes n r;unfold nI at this;rw [this];push_cast;rfl
theorem zhq(n:Nat):∀(m x:Nat),∃l:List Nat,dig n x m=nI l∧(∀d∈l,d<2^n)∧l.length=m
 | 0,x=>⟨[],rfl,fun X h=>(nomatch h),rfl⟩
 | m+1,x=>by
  obtain ⟨l,h1,h2,h3⟩:=zhq n m (x/2^n)
  refine ⟨x%2^n :: l,by rw [dig,h1];rfl,fun d hd=>?_,congrArg Nat.succ h3⟩
  rcases cP hd with rfl | hd
  ·exact mT _ (Nat.pow_pos (by decide))
  ·exact h2 d hd
theorem zok(b n d V:Nat)(hb:0<b):(d+2^n*V)/b=(V%b*2^n+d)/b+2^n*(V/b)∧(d+2^n*V)%b=(V%b*2^n+d)%b:=by
 have e3:d+2^n*V=V%b*2^n+d+b*(2^n*(V/b)):=by
  have:2^n*V=b*(2^n*(V/b))+V%b*2^n:=by
   conv=>lhs;rw [←Nat.div_add_mod V b]
   rw [Nat.mul_add,Nat.mul_left_comm,Nat.mul_comm (2^n) (V%b)]
  rw [this,Nat.add_comm d,Nat.add_assoc,Nat.add_comm]
 rw [e3]
 exact ⟨Nat.add_mul_div_left _ _ hb,Nat.add_mul_mod_self_left _ _ _⟩
section
variable {P:PM T3} {h:Hp} {K:AV→Hp→Prop}
noncomputable def zqU(n:Nat)(k:Nat):Int:=Nat.casesOn (motive:=fun X=>Int) k ((n:Int)-1) fun k=>(n:Int)-1-(k+1:Nat)
theorem zoy(n k:Nat):zqU n k=(n:Int)-1-k:=by
 induction k using Nat.casesOn with
 | zero=>exact (Int.sub_zero _).symm
 | succ k=>rfl
theorem zjZ{α:Type}{z:List α}{f:α→AV}{t:Expr}{it l:Nat}{q:Bool×List AV}(e:q.2.reverse=z.map f):Iter P t it (z.map f) (fun k h=>h.at_ it = .revit l (zqU q.2.length k)∧(h.at_ l).list? = some q) (fun k h=>h.set it (.revit l (zqU q.2.length (k+1)))) fun h=>h.set it .other:=by
 have:=zi9 (P:=P) (t:=t) (it:=it) (l:=l) (q:=q)
 simp only [←zoy] at this
 exact e▸this
noncomputable def X10(l:List Nat):List AV:=(nI l).map AV.int
theorem znY(l:List Nat):X10 l=l.map fun (x:Nat)=>AV.int x:=by unfold X10 nI;rw [List.map_map];rfl
def H10(b:Nat)(l:List Nat)(s:List Nat×Nat)(k:Nat):Hp:= .of [.frame [("b", .int b),("n", .int (zas b)),("r", .int s.2),("q_digits", .ref 2)], .list false (X10 l), .list false (s.1.map fun (x:Nat)=>AV.int x), .revit 1 (zqU (X10 l).length k)]
theorem Wk.eq{h g g':Hp}(e:g=g')(H:Wk h g'):Wk h g:=e▸H
theorem zn5{b:Nat}{l s:List Nat}{x y k:Nat}:H10 b l (s ++ [x],y) k = .of [.frame [("b", .int b),("n", .int (zas b)),("r", .int y),("q_digits", .ref 2)], .list false (X10 l), .list false (s.map (fun (x:Nat)=>AV.int x) ++ [.int x]), .revit 1 (zqU (X10 l).length k)]:=by
 unfold H10;rw [List.map_append];rfl
structure R10(b w:Nat)(l:List Nat)(s:List Nat×Nat)(k:Nat):Prop where
 len:s.1.length=k
 lt:∀q∈s.1,q<2^w
 val:zlf w s.1.reverse=zlf w (l.reverse.take k).reverse/b
 rem:s.2=zlf w (l.reverse.take k).reverse%b
theorem R10.next{b w k d:Nat}{l:List Nat}{s:List Nat×Nat}(r:R10 b w l s k)(hb:0<b)(e:l.reverse[k]? = some d)(hd:d<2^w):s.2*2^w+d<b*2^w∧R10 b w l (s.1 ++ [(s.2*2^w+d)/b],(s.2*2^w+d)%b) (k+1):=by
 have eV:zlf w (l.reverse.take (k+1)).reverse=d+2^w*zlf w (l.reverse.take k).reverse:=by
  rw [List.take_succ,e,List.reverse_append];rfl
 have hr:s.2<b:=r.rem▸mT _ hb
 obtain ⟨s1,s2⟩:=zok b w d (zlf w (l.reverse.take k).reverse) hb
 have hlt:s.2*2^w+d<b*2^w:=by
  have h2:(s.2+1)*2^w≤b*2^w:=Nat.mul_le_mul_right _ hr
  rw [Nat.add_mul,Nat.one_mul] at h2
  exact lL (Nat.add_lt_add_left hd _) h2
 rw [←r.rem,←r.val] at s1
 rw [←r.rem] at s2
 refine ⟨hlt,⟨by rw [List.length_append,r.len];rfl,fun q hq=>?_,by rw [eV,s1,List.reverse_append];rfl,by rw [eV,s2]⟩⟩
 rcases List.mem_append.mp hq with hq | hq
 ·exact r.lt q hq
 ·rw [List.mem_singleton.mp hq,Nat.div_lt_iff_lt_mul hb,Nat.mul_comm (2^w)];exact hlt
def w10(P:PM T3)(a b:Nat):Wt:=pW P (fd 10,[]) [.int a, .int b] (zcv (a/b:Nat) (a%b:Nat))
theorem zmW(B:Tbl T3 P.c)(a b:Nat)(hb:0<b)(hbl:zaC b≤120000)(hal:zaC a≤400000)(hnd:zcR (zaC b) a≤1000)(k0:K (zcv (a/b:Nat) (a%b:Nat)) h):za6 (P.lv 12).up (.glob 88) [.int a, .int b] [] h K:=by
 have hlo:=zi7 hb
 have hhi:=zdf b
 have hN:=zbl b
 have hw:1≤zaC b:=by unfold zaC;rw [if_neg (Nat.ne_of_gt hb)];exact Nat.succ_pos _
 obtain ⟨l,hl1,hl2,hl3⟩:=zhq (zaC b) (zcR (zaC b) a) a
 have hva:zlf (zaC b) l=a:=by
  have:=zhp (zaC b) (zcR (zaC b) a) a (zg6 hw)
  rw [hl1,zes] at this
  exact Int.ofNat_inj.mp this
 have hz:zaC b*zcR (zaC b) a≤520000:=lT zjI (jD hal hbl)
 have hll:l.length≤1000:=hl3▸hnd
 have B':Tbl T3 (P.lv 12).c:=P.lv_c 12▸B
 have C1:za6 (P.lv 12) (.glob 74) [.int a, .int (zaC b)] [] (Hp.of []) (DK (.ref 0) [.list false (X10 l)]):=by
  have:=zrV B 10 a (zaC b) hw (lT hnd (by decide)) (lT (jD hal hbl) (by decide))
  rwa [hl1] at this
 have C3:=fun (ds:List Int) (e:ds.length≤1000) (f:∀d∈ds,d.natAbs≤2^zaC b) (g:zaC b+zaC b*ds.length≤900000) {h:Hp} {K:AV→Hp→Prop}=> @zmZ P h K B 10 ds (zaC b) (zaC b) hw (lT e (by decide)) f g
 have C2:=zrX (P:=P.up) B 5 (zaC b)
 generalize zaC b=w at*
 have nn:(decide (0≤zas (b:Int))&&decide (zas (b:Int)≤1000000))=true:=by
  rw [hN];exact an (dT (Int.natCast_nonneg w)) (dT (Int.ofNat_le.mpr (lT hbl (by decide:120000≤1000000))))
 have lX:∀{n:Nat},n≤1000→n≤sizeL:=fun h=>lT h (by decide)
 have er:(X10 l).reverse=l.reverse.map fun (x:Nat)=>AV.int x:=by rw [znY,List.map_reverse]
 refine zc2 (P:=P.lv 12) B' (?_:Sm (P.lv 12) (w10 (P.lv 12) a b)) k0
 refine (let ww:Wt:=_;(?_:Sm _ ww))
 refine .callD C1 [] ?_ (e:=Eq.trans (b:=some (.glob 74, [.int a, .int (zas (b:Int))], [])) (by kernel_rfl) (by rw [hN];rfl))
 refine .tt (.loopM B' 4 (zjZ (q:=(false,X10 l)) (l:=1) er) (H10 b l) (R10 b w l) ([],0) (.to 0 [("b", .int b),("n", .int (zas b)),("r", .int (0:Nat)),("q_digits", .ref 2)]) ⟨rfl,fun X h=>(nomatch h),(Nat.zero_div b).symm,(Nat.zero_mod b).symm⟩ (fun X X X=>⟨by kernel_rfl,by kernel_rfl,by kernel_rfl⟩) ?_ ?_)
 ·intro s k d e r
  have hd:d<2^w:=hl2 d (List.mem_reverse.mp (mG e))
  obtain ⟨g1,g2⟩:=r.next hb e hd
  have hk:k<1000:=lL (List.length_reverse▸(gE e).1) hll
  have sr:za3 (s.2:Int)=true:=zax (k:=w) (by rw [Int.natAbs_natCast,r.rem];exact Nat.lt_trans (mT _ hb) hhi) (lT hbl (by decide))
  refine (let ww:Wt:=_;(?_:Sm _ ww))
  refine .st (.i (s.2*2^w:Nat)) (And.intro (by rw [hN];exact zbu s.2 w:(s.2:Int)*2^(zas (b:Int)).toNat=((s.2*2^w:Nat):Int)) (an nn sr)) ?_
  refine .callP (C2 (s.2*2^w+d) b hlo hhi hw g1 (lT hbl (by decide)) (lT hbl (by decide))) ?_ (e:=Eq.trans (b:=some (.glob 60, [.int ((s.2*2^w:Nat)+(d:Int)), .int b, .int (zas (b:Int))], [])) (by kernel_rfl) (by rw [hN];rfl))
  exact .st .o (an (bt (b:=sizeL) (by rw [List.length_map,r.len];exact lX hk:(s.1.map fun (x:Nat)=>AV.int x).length.succ≤sizeL)) (rfl:(false || true)=true)) (.next 4 (H10 b l) (R10 b w l) k (s.1 ++ [(s.2*2^w+d)/b],(s.2*2^w+d)%b) (.eq zn5 (.to 0 [("b", .int b),("n", .int (zas b)),("r", .int ((s.2*2^w+d)%b:Nat)),("q_digits", .ref 2)])) g2)
 ·intro s r
  have sl:s.1.length≤1000:=by rw [r.len,List.length_reverse];exact hll
  have ev:=r.val
  have em:=r.rem
  rw [List.take_length,List.reverse_reverse,hva] at ev em
  have eq:((s.1.map fun (x:Nat)=>AV.int x).reverse)=(((nI s.1.reverse).map SV.int).map SV.av):=by rw [zs4,←List.map_reverse];exact (znY _).symm
  refine (let ww:Wt:=_;(?_:Sm _ ww))
  refine .st .o (bt (b:=sizeL) (by rw [List.length_map];exact lX sl:(s.1.map fun (x:Nat)=>AV.int x).length≤sizeL)) (.frzA 2 ((nI s.1.reverse).map SV.int) (.callP (C3 (nI s.1.reverse) ?_ ?_ ?_) (.asIs (.fin (by rw [zes,ev,em]:zcv (zbr w (nI s.1.reverse)) s.2=zcv ((a/b:Nat):Int) ((a%b:Nat):Int)))) (e:=Eq.trans (b:=some (.glob 81, [.lst ((nI s.1.reverse).map SV.int), .int (zas (b:Int))], [])) (by kernel_rfl) (by rw [hN]))) (e:=Eq.trans (b:= .list false (s.1.map fun (x:Nat)=>AV.int x).reverse) (by kernel_rfl) (by rw [eq])))
  ·unfold nI;rw [List.length_map,List.length_reverse];exact sl
  ·intro d hd
   obtain ⟨q,hq,rfl⟩:=mP hd
   rw [Int.natAbs_natCast]
   exact lO (r.lt q (List.mem_reverse.mp hq))
  ·unfold nI;rw [List.length_map,List.length_reverse,r.len,List.length_reverse,hl3];lia
end
section
variable {P:PM T3} {h:Hp} {K:AV→Hp→Prop}
def w11(P:PM T3)(a:Int)(b:Nat):Wt:=pW P (fd 11,[]) [.int a, .int b] (zcv (a/b) (a%b))
def okD(b:Nat)(x:Nat):Prop:=zaC x≤400000∧zcR (zaC b) x≤1000
theorem zfx(B:Tbl T3 P.c)(a b:Nat)(hb:0<b)(hbl:zaC b≤120000)(ha:okD b a)(k0:K (zcv ((a:Int)/b) ((a:Int)%b)) h):za6 (P.lv 13).up (.glob 95) [.int a, .int b] [] h K:=by
 have B':Tbl T3 (P.lv 13).c:=P.lv_c 13▸B
 exact zc2 (P:=P.lv 13) B' (.st (.b false) (beq_eq_false_iff_ne.mpr (fun q=>absurd (Int.ofNat_inj.mp q) (Nat.ne_of_gt hb)):((b:Int)==0)=false) (.st (.b false) (decide_eq_false (Int.not_lt.mpr (Int.natCast_nonneg b)):decide ((b:Int)<0)=false) (.st (.b false) (decide_eq_false (Int.not_lt.mpr (Int.natCast_nonneg a)):decide ((a:Int)<0)=false)
  (.callP (zmW B a b hb hbl ha.1 ha.2) (.asIs (.fin (rfl:zcv (a/b:Nat) (a%b:Nat)=zcv ((a:Int)/b) ((a:Int)%b))))))):Sm (P.lv 13) (w11 (P.lv 13) a b)) k0
theorem dn1{X m x a b:Int}(e:X+m=x)(hx:x = -a-1):b+(-m-1)+(-X-b)=a:=by omega
theorem dn2{m b:Int}(h:m<b):0≤b+(-m-1):=by omega
theorem dn3{m b:Int}(h:0≤m):b+(-m-1)<b:=by omega
theorem zpB{a:Int}{b x:Nat}(hb:0<b)(hx:(x:Int) = -a-1):zcv (-((x:Int)/b)-1) (b+(-((x:Int)%b)-1))=zcv (a/b) (a%b):=by
 have hm:x%b<b:=mT _ hb
 have hd:=Nat.div_add_mod x b
 have u:=(Int.ediv_emod_unique (a:=a) (b:=(b:Int)) (q:=-((x/b:Nat):Int)-1) (r:=(b:Int)+(-((x%b:Nat):Int)-1)) (Int.natCast_pos.mpr hb)).mpr ⟨by
  have e:((b*(x/b)+x%b:Nat):Int)=(x:Int):=by rw [hd]
  rw [Int.natCast_add,Int.natCast_mul] at e
  rw [Int.mul_sub,Int.mul_neg,Int.mul_one]
  exact dn1 e hx,dn2 (Int.ofNat_lt.mpr hm),dn3 (Int.natCast_nonneg _)⟩
 rw [u.1,u.2];rfl
theorem zmX(B:Tbl T3 P.c)(a:Int)(b:Nat)(hb:0<b)(hbl:zaC b≤120000)(hal:∀x:Nat,(x:Int)=a∨(x:Int) = -a-1→okD b x)(k0:K (zcv (a/b) (a%b)) h):za6 (P.lv 14).up (.glob 95) [.int a, .int b] [] h K:=by
 rcases Int.lt_or_le a 0 with ha | ha
 ·obtain ⟨x,hx⟩:∃x:Nat,(x:Int) = -a-1:=⟨(-a-1).toNat,by lia⟩
  have B':Tbl T3 (P.lv 14).c:=P.lv_c 14▸B
  exact zc2 (P:=P.lv 14) B' (.st (.b false) (beq_eq_false_iff_ne.mpr (fun q=>absurd (Int.ofNat_inj.mp q) (Nat.ne_of_gt hb)):((b:Int)==0)=false) (.st (.b false) (decide_eq_false (Int.not_lt.mpr (Int.natCast_nonneg b)):decide ((b:Int)<0)=false) (.st (.b true) (dT ha)
   (.callP (zfx B x b hb hbl (hal x (.inr hx))) (.asIs (.fin (zpB hb hx))) (e:=Eq.trans (b:=some (.glob 95, [.int (-a-1), .int b], [])) (by kernel_rfl) (by rw [←hx]))))):Sm (P.lv 14) (w11 (P.lv 14) a b)) k0
 ·obtain ⟨x,rfl⟩:∃x:Nat,a=x:=⟨a.toNat,by lia⟩
  exact zfx (P:=P.up) B x b hb hbl (hal x (.inl rfl)) k0
end
noncomputable def unL:List Nat:=[173,847,6150,6155,6156,6157,8203,8204,8205,8288,65279,65024,65025,65026,65027,65028,65029,65030,65031,65032,65033,65034,65035,65036,65037,65038,65039]
noncomputable def beL:List Nat:=[34,92,32,9,172,174,846,848,6149,6151,6154,6158,8202,8206,8287,8289,65278,65280,65023,65040]
noncomputable def nameL:List Nat:=[105,108,115,116]
noncomputable def mathL:List Nat:=[0,1,2,4,7,8,9,10,11,12]
noncomputable def modL:List Nat:=[2,5,8,10]
noncomputable def signL:List Nat:=[102,64256,73,64257,64259,108,64258,64260,383,223,84,64262]
noncomputable def meanL:List (List Nat):=[[102],[102,102],[105],[102,105],[102,102,105],[108],[102,108],[102,102,108],[115],[115,115],[116],[115,116]]
def zbB(c:Nat):Nat:=unL.getD (c/100%100%27) 0
def nmN(c:Nat):Nat:=nameL.getD (c%10%4) 0
def zcT(c:Nat):Nat:=mathL.getD (c/10000%10) 0
def zbp(c:Nat):Nat:=(119808+52*(zcT c:Int)+(nmN c:Nat)-97).toNat
def za9(c:Nat):List Nat:=[[nmN c],za8 [nmN c],[zbp c],za8 [nmN c] ++ [zbB c]].getD (c/10%10%4) []
noncomputable def zbR(c:Nat):Nat:=c/100000%100
def zbA(c:Nat):Nat:=zbR c%(if zbR c>75 then 12 else modL.getD (c%10%4) 0)
def zaJ(c:Nat):Nat:=signL.getD (zbA c) 0
def zab(c:Nat):List Nat:=meanL.getD (zbA c) []
def za7(c:Nat):Nat:=beL.getD (c/10000000%100%20) 0
def memN(c:Nat):List Nat:=[[za7 c] ++ [zaJ c] ++ [zbB c],[zbB c] ++ [za7 c] ++ [zaJ c],[za7 c] ++ [zbB c] ++ [zaJ c]].getD (c/1000000000%10%3) []
def ztc(c:Nat):List (List Nat):=[[nmN c],[za7 c]++zab c,za9 c,memN c]
def zbw(c:Nat):List SV:=(ztc c).map .str
theorem zmv{α:Type}(L:List α)(d:α)(k i:Nat)(f:α→AV)(h:L.length=k)(hk:Nat.blt 0 k=true):(L.map f)[i%k]? = some (f (L.getD (i%k) d)):=by
 have h0:0<k:=jL hk
 have h1:i%k<L.length:=by rw [h];exact mT _ h0
 rw [List.getElem?_map,List.getElem?_eq_getElem h1,List.getD_eq_getElem?_getD,List.getElem?_eq_getElem h1];rfl
theorem zeo{L:List Nat}{p:Nat→Prop}{d:Nat}(i:Nat)(h:∀x∈L,p x)(hd:p d):p (L.getD i d):=by
 rw [List.getD_eq_getElem?_getD]
 induction e:L[i]? with
 | none=>exact hd
 | some x=>exact h x (mG e)
theorem zph(c:Nat):zbB c≤1114111:=zeo (p:=fun x=>x≤1114111) _ (by decide) (by decide)
theorem zeQ(c:Nat):za7 c≤1114111:=zeo (p:=fun x=>x≤1114111) _ (by decide) (by decide)
theorem zh2(c:Nat):zcT c≤12:=zeo (p:=fun x=>x≤12) _ (by decide) (by decide)
theorem zap{L:List Nat}{p:Nat→Prop}{d:Nat}(k i:Nat)(hk:Nat.blt 0 k=true)(e:L.length=k)(h:∀x∈L,p x):p (L.getD (i%k) d):=by
 have h0:0<k:=jL hk
 have h1:i%k<L.length:=by rw [e];exact mT _ h0
 rw [List.getD_eq_getElem?_getD,List.getElem?_eq_getElem h1]
 exact h _ (List.getElem_mem h1)
theorem zgQ(c:Nat):nmN c∈nameL:=zap (p:=fun x=>x∈nameL) 4 _ rfl rfl (fun X h=>h)
theorem ztg(c:Nat):97≤nmN c∧nmN c≤122:=zap (p:=fun x=>97≤x∧x≤122) 4 _ rfl rfl (by decide)
theorem zej(c:Nat):zbA c<12:=by
 unfold zbA
 split
 ·exact mT _ (by decide)
 ·have h1:0<modL.getD (c%10%4) 0:=zap (p:=fun x=>0<x) 4 _ rfl rfl (by decide)
  have h2:modL.getD (c%10%4) 0≤12:=zap (p:=fun x=>x≤12) 4 _ rfl rfl (by decide)
  exact lL (mT _ h1) h2
theorem zkc{α:Type}(L:List α)(d:α)(k i:Nat)(f:α→AV)(h:L.length=k)(hi:i<k):(L.map f)[i]? = some (f (L.getD i d)):=by
 have h1:i<L.length:=by rw [h];exact hi
 rw [List.getElem?_map,List.getElem?_eq_getElem h1,List.getD_eq_getElem?_getD,List.getElem?_eq_getElem h1];rfl
theorem zaW(c:Nat):(zab c).length≤3:=by
 unfold zab
 rw [List.getD_eq_getElem?_getD]
 induction e:meanL[zbA c]? with
 | none=>exact Nat.zero_le _
 | some x=>
  have h:∀x∈meanL,x.length≤3:=by decide
  exact h x (mG e)
theorem zgP(c:Nat):(za8 [nmN c]).length≤8:=zap (p:=fun x=>(za8 [x]).length≤8) 4 _ rfl rfl (by decide +kernel)
section
theorem dvE(x:Nat){k:Nat}(hk:(Nat.blt 0 k&&Nat.blt k 18446744073709551616)=true):(x:Int).fdiv (k:Int)=((x/k:Nat):Int)∧((k:Int) != 0 && !Builtin.divisionGoesByPylong (x:Int) (k:Int))=true:=by
 obtain ⟨h0,h1⟩:=aI hk
 refine ⟨zhl x k,?_⟩
 rw [zd5 (by rw [Int.natAbs_natCast];exact jL h1)]
 exact an (bne_iff_ne.mpr fun q=>absurd (Int.ofNat_inj.mp q) (Nat.ne_of_gt (jL h0))) rfl
theorem mdE(x:Nat){k:Nat}(hk:Nat.blt 0 k=true):(x:Int).fmod (k:Int)=((x%k:Nat):Int)∧((k:Int) != 0)=true:=⟨zhj x k,bne_iff_ne.mpr fun q=>absurd (Int.ofNat_inj.mp q) (Nat.ne_of_gt (jL hk))⟩
theorem Sm.dv{T:Tabs}{P:PM T}{w:Wt}(x k:Nat)(H:Sm P (w.nx (.i (x/k:Nat))))(hk:(Nat.blt 0 k&&Nat.blt k 18446744073709551616)=true:=by rfl)(q:autoParam (w.cn (.i (x/k:Nat))=((x:Int).fdiv (k:Int)=((x/k:Nat):Int)∧((k:Int) != 0 && !Builtin.divisionGoesByPylong (x:Int) (k:Int))=true)) Mine.kr1):Sm P w:= .st _ (dvE x hk) H q
theorem Sm.md{T:Tabs}{P:PM T}{w:Wt}(x k:Nat)(H:Sm P (w.nx (.i (x%k:Nat))))(hk:Nat.blt 0 k=true:=by rfl)(q:autoParam (w.cn (.i (x%k:Nat))=((x:Int).fmod (k:Int)=((x%k:Nat):Int)∧((k:Int) != 0)=true)) Mine.kr1):Sm P w:= .st _ (mdE x hk) H q
theorem zns{α:Type}(L:List α)(d:α)(k i:Nat)(f:α→AV)(h:L.length=k:=by rfl)(hk:(Nat.blt 0 k&&Nat.ble k sizeL)=true:=by rfl):nth (L.map f) ((i%k:Nat):Int)=some (f (L.getD (i%k) d)):=
 (aI hk).elim fun h0 h1=>zaT (zmv L d k i f h h0) (by rw [List.length_map,h];exact h1)
theorem ztJ(x:Nat)(h:x≤1114111):(decide (0≤(x:Int))&&decide ((x:Int)≤1114111))=true:=an (dT (Int.natCast_nonneg x)) (dT (Int.ofNat_le.mpr h))
variable {P:PM T3} {h:Hp} {K:AV→Hp→Prop}
def w29(P:PM T3)(c:Nat):Wt:=pW P (fd 29,[]) [.int c] (.lst (zbw c))
theorem zmu(c:Nat):(decide (0≤119808+52*(zcT c:Int)+(nmN c:Nat)-97)&&decide (119808+52*(zcT c:Int)+(nmN c:Nat)-97≤1114111))=true:=by
 have h1:=zh2 c
 have h2:=ztg c
 exact an (dT (by lia)) (dT (by lia))
theorem zrS(B:Tbl T3 P.c)(c:Nat)(k:K (.lst (zbw c)) h):za6 P.up (.glob 373) [.int c] [] h K:=by
 have nthS:nth nameL ((c%10%4:Nat):Int)=some (nmN c):=by
  have h1:c%10%4<nameL.length:=mT _ (by decide)
  refine zaT ?_ rfl
  unfold nmN
  rw [List.getD_eq_getElem?_getD,List.getElem?_eq_getElem h1];rfl
 have up1:Nat.ble (za8 [nmN c]).length sizeL=true:=bt (lT (zgP c) (by decide))
 have up2:Nat.ble ((za8 [nmN c]).length+1) sizeL=true:=bt (lT (Nat.add_le_add_right (zgP c) 1) (by decide))
 have ml:Nat.ble (1+(zab c).length) sizeL=true:=bt (lT (Nat.add_le_add_left (zaW c) 1) (by decide))
 have hk1:nth (signL.map fun (c:Nat)=>AV.str [c]) ((zbA c:Nat):Int)=some (.str [zaJ c]):=zaT (zkc signL 0 12 _ (fun c=>AV.str [c]) rfl (zej c)) rfl
 have hk2:nth (meanL.map AV.str) ((zbA c:Nat):Int)=some (.str (zab c)):=zaT (zkc meanL [] 12 _ AV.str rfl (zej c)) rfl
 refine zc2 B (?_:Sm P (w29 P c)) k
 refine .tt (.ok (.ok (.tt (.dv c 100 (.md (c/100) 100 (.md (c/100%100) 27 (.st (.a (.int (zbB c))) (zns unL 0 27 (c/100%100) (fun (k:Nat)=>AV.int k):nth (unL.map fun (k:Nat)=>AV.int k) ((c/100%100%27:Nat):Int)=some (.int (zbB c))) (.st .o (ztJ (zbB c) (zph c)) (.md c 10 (.md (c%10) 4 (.st (.n (nmN c)) (nthS:nth nameL ((c%10%4:Nat):Int)=some (nmN c)) (.tt (.num 10000 (.dv c 10000 (.md (c/10000) 10 (.st (.a (.int (zcT c))) (zns mathL 0 10 (c/10000) (fun (k:Nat)=>AV.int k):nth (mathL.map fun (k:Nat)=>AV.int k) ((c/10000%10:Nat):Int)=some (.int (zcT c))) (.st (.i (52*(zcT c:Int))) (And.intro (rfl:52*(zcT c:Int)=52*(zcT c:Int)) (an (rfl:za3 52=true) (zaI (lT (zh2 c) (by decide))))) (.st .o (zmu c) (.st .o up1 (.st .o up1 (.st .o up2 (.tt (.dv c 10 (.md (c/10) 10 (.md (c/10%10) 4 (.st (.a (.str (za9 c))) (zns [[nmN c],za8 [nmN c], [zbp c],za8 [nmN c] ++ [zbB c]] [] 4 (c/10%10) AV.str:nth ([[nmN c],za8 [nmN c], [zbp c],za8 [nmN c] ++ [zbB c]].map AV.str) ((c/10%10%4:Nat):Int)=some (.str (za9 c))) (.num 100000 (.dv c 100000 (.md (c/100000) 100 (?_))))))))))))))))))))))))))))))
 rcases fT (decide ((75:Int)<(zbR c:Nat))) with q | q
 ·have ek:zbA c=zbR c%12:=by unfold zbA;rw [if_pos (Int.ofNat_lt.mp (oD q))]
  have em:((zbR c:Nat):Int).fmod ((12:Nat):Int)=((zbA c:Nat):Int)∧(((12:Nat):Int) != 0)=true:=ek▸mdE (zbR c) rfl
  exact .st (.b true) q (.st (.i (zbA c)) em (.tt (.st (.a (.str [zaJ c])) hk1 (.tt (.st (.a (.str (zab c))) hk2 (.num 10000000 (.dv c 10000000 (.md (c/10000000) 100 (.md (c/10000000%100) 20 (.st (.a (.int (za7 c))) (zns beL 0 20 (c/10000000%100) (fun (k:Nat)=>AV.int k):nth (beL.map fun (k:Nat)=>AV.int k) ((c/10000000%100%20:Nat):Int)=some (.int (za7 c))) (.st .o (ztJ (za7 c) (zeQ c)) (.num 1000000000 (.dv c 1000000000 (.md (c/1000000000) 10 (.md (c/1000000000%10) 3 (.st .o ml (.ok (.ok (.ok (.ok (.ok (.ok (.tt (.st (.a (.str (memN c))) (zns [[za7 c] ++ [zaJ c] ++ [zbB c], [zbB c] ++ [za7 c] ++ [zaJ c], [za7 c] ++ [zbB c] ++ [zaJ c]] [] 3 (c/1000000000%10) AV.str:nth ([[za7 c] ++ [zaJ c] ++ [zbB c], [zbB c] ++ [za7 c] ++ [zaJ c], [za7 c] ++ [zbB c] ++ [zaJ c]].map AV.str) ((c/1000000000%10%3:Nat):Int)=some (.str (memN c))) (.tt (.froz 11 (zbw c) (.fin (rfl:AV.lst (zbw c) = .lst (zbw c)))))))))))))))))))))))))))))
 ·have ek:zbA c=zbR c%modL.getD (c%10%4) 0:=by unfold zbA;rw [if_neg fun g=>of_decide_eq_false q (Int.ofNat_lt.mpr g)]
  have hm:Nat.blt 0 (modL.getD (c%10%4) 0)=true:=zap (p:=fun x=>Nat.blt 0 x=true) 4 _ rfl rfl (by decide)
  have em:((zbR c:Nat):Int).fmod ((modL.getD (c%10%4) 0:Nat):Int)=((zbA c:Nat):Int)∧(((modL.getD (c%10%4) 0:Nat):Int) != 0)=true:=ek▸mdE (zbR c) hm
  exact .st (.b false) q (.tt (.md c 10 (.md (c%10) 4 (.st (.a (.int (modL.getD (c%10%4) 0:Nat))) (zns modL 0 4 (c%10) (fun (k:Nat)=>AV.int k):nth (modL.map fun (k:Nat)=>AV.int k) ((c%10%4:Nat):Int)=some (.int (modL.getD (c%10%4) 0:Nat))) (.st (.i (zbA c)) em (.tt (.st (.a (.str [zaJ c])) hk1 (.tt (.st (.a (.str (zab c))) hk2 (.num 10000000 (.dv c 10000000 (.md (c/10000000) 100 (.md (c/10000000%100) 20 (.st (.a (.int (za7 c))) (zns beL 0 20 (c/10000000%100) (fun (k:Nat)=>AV.int k):nth (beL.map fun (k:Nat)=>AV.int k) ((c/10000000%100%20:Nat):Int)=some (.int (za7 c))) (.st .o (ztJ (za7 c) (zeQ c)) (.num 1000000000 (.dv c 1000000000 (.md (c/1000000000) 10 (.md (c/1000000000%10) 3 (.st .o ml (.ok (.ok (.ok (.ok (.ok (.ok (.tt (.st (.a (.str (memN c))) (zns [[za7 c] ++ [zaJ c] ++ [zbB c], [zbB c] ++ [za7 c] ++ [zaJ c], [za7 c] ++ [zbB c] ++ [zaJ c]] [] 3 (c/1000000000%10) AV.str:nth ([[za7 c] ++ [zaJ c] ++ [zbB c], [zbB c] ++ [za7 c] ++ [zaJ c], [za7 c] ++ [zbB c] ++ [zaJ c]].map AV.str) ((c/1000000000%10%3:Nat):Int)=some (.str (memN c))) (.tt (.froz 12 (zbw c) (.fin (rfl:AV.lst (zbw c) = .lst (zbw c)))))))))))))))))))))))))))))))))
end
theorem zbF(c:Nat):za9 c≠[]∧(za9 c).length≤9:=by
 have h:∀x∈ [[nmN c],za8 [nmN c], [zbp c],za8 [nmN c] ++ [zbB c]],x≠ []∧x.length≤9:=by
  have h1:za8 [nmN c]≠ []:=zap (p:=fun x=>za8 [x]≠ []) 4 _ rfl rfl (by decide +kernel)
  have h2:=zgP c
  intro x hx
  simp only [List.mem_cons,List.not_mem_nil,or_false] at hx
  rcases hx with rfl | rfl | rfl | rfl
  ·simp
  ·exact ⟨h1,Nat.le_succ_of_le h2⟩
  ·simp
  ·refine ⟨by simp,?_⟩
   rw [List.length_append,List.length_singleton];exact Nat.add_le_add_right h2 1
 unfold za9
 rw [List.getD_eq_getElem?_getD]
 induction e:([[nmN c],za8 [nmN c], [zbp c],za8 [nmN c] ++ [zbB c]])[c/10%10%4]? with
 | none=>
  have:=List.getElem?_eq_none_iff.mp e
  have h0:c/10%10%4<4:=mT _ (by decide)
  exact absurd h0 (Nat.not_lt_of_le this)
 | some x=>exact h x (mG e)
theorem zbx(c:Nat):(memN c).length=3:=by
 have h0:c/1000000000%10%3<3:=mT _ (by decide)
 unfold memN
 generalize c/1000000000%10%3=i at h0
 match i,h0 with
 | 0,_=>rfl
 | 1,_=>rfl
 | 2,_=>rfl
noncomputable def ziz(c:Nat):Nat:=c/10000000000%10%4
noncomputable def ziy(c:Nat):Nat:=c/100000000000%10%4
noncomputable def zdj(k:Nat):Nat:=[32,10,9,13].getD (k%4) 0
noncomputable def zeI(k:Nat):Nat:=[10,9,13,32].getD (k%4) 0
def zfL(k c:Nat):List Nat:=wr (ziz c:Nat) (za9 c) [zdj k]++wr (ziy c:Nat) (memN c) [zeI k]
def zaf(cs:List Nat):List Nat:=(cs.mapIdx zfL).flatten
theorem zn9(way:Int)(w white:List Nat):(wr way w white).length≤2*w.length+white.length+2:=by
 have h:=fun a s=>zhk a s w
 have h1:=h (way==3) [34,92]
 have h2:=h (way==1) [92,32,9]
 unfold wr
 induction q03 way with
 | true=>unfold wrQ;simp only [cond_true,List.length_append,List.length_cons,List.length_nil];lia
 | false=>
  unfold wrB
  induction way==2&&w.head? == some 34 <;> simp only [cond_true,cond_false,List.length_append,List.length_cons,List.length_nil] <;> lia
theorem ze0(c k:Nat):(wr (ziz c:Nat) (za9 c) [zdj k]).length≤21∧(wr (ziy c:Nat) (memN c) [zeI k]).length≤9:=
 ⟨lT (zn9 _ _ _) (Nat.add_le_add_right (Nat.mul_le_mul_left 2 (zbF c).2) 3),lT (zn9 _ _ _) (by rw [zbx];exact rL _)⟩
theorem ziJ(k c:Nat):(zfL k c).length≤40:=by
 unfold zfL
 rw [List.length_append]
 exact lT (jD (ze0 c k).1 (ze0 c k).2) (by decide)
theorem zi3{f:Nat→Nat→List Nat}(l:List Nat)(h:∀k c,(f k c).length≤40):((l.mapIdx f).map List.length).sum≤40*l.length:=by
 induction l generalizing f with
 | nil=>simp
 | cons x l ih=>
  have:=ih (f:=fun i=>f (i+1)) (fun k c=>h _ _)
  have:=h 0 x
  rw [List.mapIdx_cons,List.map_cons,List.sum_cons,List.length_cons]
  lia
theorem zeL(cs:List Nat):(zaf cs).length≤40*cs.length:=by
 unfold zaf
 rw [List.length_flatten]
 exact zi3 cs ziJ
theorem zbW{cs:List Nat}{k c:Nat}(h:cs[k]? = some c):zaf (cs.take (k+1))=zaf (cs.take k)++(wr (ziz c:Nat) (za9 c) [zdj k]++wr (ziy c:Nat) (memN c) [zeI k]):=by
 have hkl:k<cs.length:=(gE h).1
 have e:(cs.take k).length=k:=by rw [List.length_take];exact Nat.min_eq_left (lO hkl)
 rw [List.take_succ,h,Option.toList]
 unfold zaf
 rw [List.mapIdx_concat,List.flatten_append,e]
 simp [zfL]
section
variable {P:PM T3} {h:Hp} {K:AV→Hp→Prop}
theorem Sm.loopN{T:Tabs}{P:PM T}{w:Wt}{ι:Type}(B:Tbl T P.c)(n m:Nat)(H:ι→Nat→Hp)(R:ι→Nat→Prop)(i0:ι)(wk:Wk w.hp (H i0 0))(h0:R i0 0)(hl:∀i k,R i k→Nat.blt w.git (H i k).nx=true∧(H i k).at_ w.git = .riter (0+(k:Int)*1) ((m:Int)-k) 1)
  (hb:∀i (k:Nat),k<m→R i k→Sm P (w.tw P (On1 (Iv H R) n k) (.int k) ((H i k).set w.git (.riter (0+((k+1:Nat):Int)*1) ((m:Int)-(k+1:Nat)) 1)))) (he:∀i,R i m→Sm P (w.kh ((H i m).set w.git .other))) (g0:autoParam ((w.isG,(H i0 0).nx,w.hp.nx)=(true,n,n)) Mine.kr1):Sm P w:=
 zrf (p:=0) (c:=1) (m:=m) B n zdG H R i0 wk h0 hl (fun i k e r=>by rw [Int.mul_one,Int.zero_add];exact hb i k e r) he g0
def pV(c:Nat):AV:= .lst (zbw c)
def H30(cs:List Nat)(_:Unit)(k:Nat):Hp:= .of [.list false (cs.map pV), .frame [("cells", .lst ((nI cs).map .int)),("pairs", .ref 0),("text", .str (zaf (cs.take k)))], .range 0 7 1, .riter (0+(k:Int)*1) (((7:Nat):Int)-k) 1]
theorem zn4{cs:List Nat}{k c:Nat}(e:cs[k]? = some c):H30 cs () (k+1) = .of [.list false (cs.map pV), .frame [("cells", .lst ((nI cs).map .int)),("pairs", .ref 0),("text", .str (zaf (cs.take k)++wr (ziz c:Nat) (za9 c) [zdj k]++wr (ziy c:Nat) (memN c) [zeI k]))], .range 0 7 1, .riter (0+((k+1:Nat):Int)*1) (((7:Nat):Int)-(k+1:Nat)) 1]:=by
 unfold H30;rw [zbW e,List.append_assoc]
def w30(P:PM T3)(cs:List Nat):Wt:=dW P (fd 30,[]) [.lst ((nI cs).map .int), .ref 0] [] [.list false (cs.map pV)] (.str (zaf cs)) [.list false (cs.map pV)]
theorem zrR(B:Tbl T3 P.c)(cs:List Nat)(h7:cs.length=7):za6 P.up.up (.glob 380) [.lst ((nI cs).map .int), .ref 0] [] (Hp.of [.list false (cs.map pV)]) (DK (.str (zaf cs)) [.list false (cs.map pV)]):=by
 refine zb0 B (?_:Sm P.up (w30 P.up cs))
 refine .ok (.loopN B 4 7 (H30 cs) (fun X X=>True) () (.to 1 [("cells", .lst ((nI cs).map .int)),("pairs", .ref 0),("text", .str [])]) trivial (fun X X X=>⟨by kernel_rfl,by kernel_rfl⟩) ?_ ?_)
 ·intro X k hk Z
  obtain ⟨c,ec⟩:∃c,cs[k]? = some c:=⟨_,List.getElem?_eq_getElem (h7.symm▸hk)⟩
  have ip:nth (cs.map pV) (k:Int)=some (.lst (zbw c)):=zaT (by rw [List.getElem?_map,ec];rfl) (bt (by rw [List.length_map,h7];decide))
  have ic:nth (((nI cs).map SV.int).map SV.av) (k:Int)=some (.int c):=zha (by unfold nI;rw [List.length_map,h7];decide) (by unfold nI;rw [List.getElem?_map,ec];rfl)
  have ih:∀(L:List Nat),L.length=4→nth L ((k%4:Nat):Int)=some (L.getD (k%4) 0):=fun L hL=>by
   have h1:k%4<L.length:=by rw [hL];exact mT _ (by decide)
   exact zaT (by rw [List.getD_eq_getElem?_getD,List.getElem?_eq_getElem h1];rfl) (bt (by rw [hL];decide))
  have iwhiA:nth [32,10,9,13] ((k%4:Nat):Int)=some (zdj k):=ih _ rfl
  have iwhiB:nth [10,9,13,32] ((k%4:Nat):Int)=some (zeI k):=ih _ rfl
  have mne:memN c≠ []:=fun e=>by have:=zbx c;rw [e] at this;cases this
  have tl:(zaf (cs.take k)).length≤280:=lT (zeL _) (Nat.mul_le_mul_left 40 (List.length_take (l:=cs) (i:=k)▸lT (Nat.min_le_right k _) (Nat.le_of_eq h7):(cs.take k).length≤7))
  obtain ⟨t1,t2⟩:=ze0 c k
  have l1:(zaf (cs.take k)).length+(wr (ziz c:Nat) (za9 c) [zdj k]).length≤sizeL:=lT (jD tl t1) (by decide)
  have l2:(zaf (cs.take k)++wr (ziz c:Nat) (za9 c) [zdj k]).length+(wr (ziy c:Nat) (memN c) [zeI k]).length≤sizeL:=by rw [List.length_append];exact lT (jD (jD tl t1) t2) (by decide)
  exact .st (.a (.lst (zbw c))) ip (.rf (.a (.str (za9 c))) (some (AV.str (za9 c))) (.st (.a (.int c)) ic (.num 10000000000 (.dv c 10000000000 (.md (c/10000000000) 10 (.md (c/10000000000%10) 4 (.md k 4 (.st (.n (zdj k)) iwhiA (.callP (zft B (za9 c) [zdj k] (ziz c:Nat) (lT (zbF c).2 (by decide)) (by decide: [0].length≤1000) (zbF c).1) (.st .o (bt (b:=sizeL) (l1:(zaf (cs.take k)).length+(wr (ziz c:Nat) (za9 c) [zdj k]).length≤sizeL)) (.st (.a (.lst (zbw c))) ip (.rf (.a (.str (memN c))) (some (AV.str (memN c))) (.st (.a (.int c)) ic (.num 100000000000 (.dv c 100000000000 (.md (c/100000000000) 10 (.md (c/100000000000%10) 4 (.md k 4 (.st (.n (zeI k)) iwhiB (.callP (zft B (memN c) [zeI k] (ziy c:Nat) (lT (Nat.le_of_eq (zbx c)) (by decide)) (by decide: [0].length≤1000) mne) (.st .o (bt (b:=sizeL) (l2:(zaf (cs.take k)++wr (ziz c:Nat) (za9 c) [zdj k]).length+(wr (ziy c:Nat) (memN c) [zeI k]).length≤sizeL)) (.next 4 (H30 cs) (fun X X=>True) k () (.eq (zn4 ec) (.to 1 [("cells", .lst ((nI cs).map .int)),("pairs", .ref 0),("text", .str (zaf (cs.take k)++wr (ziz c:Nat) (za9 c) [zdj k]++wr (ziy c:Nat) (memN c) [zeI k]))])) trivial))))))))))))))))))))))
 ·intro X Z
  exact .asIs (.endE 1 (.str (zaf cs)) [.list false (cs.map pV)] [0] (.str (zaf (cs.take 7))) (by rw [List.take_of_length_le (Nat.le_of_eq h7)]))
end
noncomputable abbrev names5:List Nat:=[102,105,108,115,116]
noncomputable abbrev oneS(c:Nat):AV:= .str [c]
noncomputable abbrev zdi(c:Nat):SV:= .str [c]
abbrev zaq(hold:Nat→List Nat):List (List Nat×AV):=names5.map fun c=>([c], .str (hold c))
def zsj(hold:Nat→List Nat)(left:List Nat):List Nat:=names5.filter fun c=>(hold c).any fun m=>left.contains m
def za1(hold:Nat→List Nat):Nat→List Nat
 | 0=>names5
 | k+1=>zsj hold (za1 hold k)
theorem zd0(hold:Nat→List Nat):∀k,∀c∈za1 hold k,c∈names5
 | 0,c,h=>h
 | k+1,c,h=>(List.mem_filter.mp h).1
theorem zk1(hold:Nat→List Nat):∀k,(za1 hold k).length≤5
 | 0=>(by decide:names5.length≤5)
 | k+1=>List.length_filter_le ..
theorem zby{α:Type}(f:Nat→α)(g:α→AV):∀c∈names5,zar (names5.map fun c=>([c],g (f c))) [c]=some (g (f c)):=by
 intro c hc
 simp only [names5,List.mem_cons,List.not_mem_nil,or_false] at hc
 rcases hc with rfl | rfl | rfl | rfl | rfl <;> rfl
theorem zbi(l:List Nat)(m:Nat):(l.map fun c=> [c]).any (· == [m])=l.contains m:=by
 induction l with
 | nil=>rfl
 | cons x l ih=>
  rw [List.map_cons,List.any_cons,List.contains_cons,ih,Bool.beq_comm]
  congr 1
  simp
def inG(l:List Nat)(m:Nat):Option AV:=bif l.contains m then some (oneS m) else none
def ziB(hold:Nat→List Nat)(l:List Nat)(c:Nat):Option AV:=bif (hold c).any fun m=>l.contains m then some (oneS c) else none
theorem fmB{α:Type}(p:Nat→Bool)(f:Nat→α)(z:List Nat):(z.filterMap fun m=>bif p m then some (f m) else none)=(z.filter p).map f:=by
 induction z with
 | nil=>rfl
 | cons x z ih=>rw [List.filterMap_cons,List.filter_cons];induction p x <;> simp [ih]
theorem znB{l z:List Nat}(r:Fm (inG l) z [] z.length):(z.any fun m=>l.contains m)=false:=by
 have e:=r.all
 unfold inG at e
 rw [fmB] at e
 exact List.any_eq_false.mpr fun m hm q=>nomatch (List.map_eq_nil_iff.mp e.symm▸List.mem_filter.mpr ⟨hm,q⟩:m∈ [])
theorem zk8{l z:List Nat}{x:AV}{t:List AV}(r:Fm (inG l) z (x :: t) z.length):(z.any fun m=>l.contains m)=true:=by
 have e:=r.all
 unfold inG at e
 rw [fmB] at e
 induction q:z.filter fun m=>l.contains m using cL with
 | nil=>rw [q] at e;cases e
 | cons m w=>
  have h:m∈z.filter fun m=>l.contains m:=q▸mS
  exact List.any_eq_true.mpr ⟨m,(List.mem_filter.mp h).1,(List.mem_filter.mp h).2⟩
theorem zjv{hold:Nat→List Nat}{l:List Nat}{acc:List AV}(r:Fm (ziB hold l) names5 acc names5.length):acc=((zsj hold l).map zdi).map SV.av:=by
 have e:=r.all
 unfold ziB at e
 rw [fmB] at e
 rw [e,List.map_map];rfl
def zp9(hold:Nat→List Nat)(k:Nat):AV:=Nat.casesOn (motive:=fun X=>AV) k (.ref 4) fun k=> .lst ((za1 hold (k+1)).map zdi)
def O32(hold:Nat→List Nat)(l:AV)(k:Nat):List AO:=[.dict false (zaq hold), .frame [], .cell (some (.ref 0)), .cell (some l), .list false (names5.map oneS), .range 0 5 1, .riter (0+(k:Int)*1) (((5:Nat):Int)-k) 1]
def H32(hold:Nat→List Nat)(_:Unit)(k:Nat):Hp:= .of (O32 hold (zp9 hold k) k)
def zqe(hold:Nat→List Nat)(k:Nat)(acc:List AV)(j:Nat):Hp:= .of (O32 hold (zp9 hold k) (k+1) ++ [.siter names5 j, .list false acc, .frame []])
def zqd(hold:Nat→List Nat)(k:Nat)(acc:List AV)(j c:Nat)(acc2:List AV)(i:Nat):Hp:= .of (O32 hold (zp9 hold k) (k+1) ++ [.siter names5 (j+1), .list false acc, .frame [("name", .str [c])], .siter (hold c) i, .list false acc2, .frame []])
theorem ys32(hold:Nat→List Nat)(k:Nat):((za1 hold (k+1)).map zdi).map SV.av=((za1 hold (k+1)).map fun c=> [c]).map .str:=by rw [List.map_map,List.map_map];rfl
section
variable {P:PM T3}
def w32(P:PM T3)(hold:Nat→List Nat):Wt:=dW P (zah pw3 32 none,[]) [.ref 0] [] [.dict false (zaq hold)] (.lst ((za1 hold 5).map zdi)) [.dict false (zaq hold)]
theorem zkM(B:Tbl T3 P.c)(hold:Nat→List Nat)(hl:∀c,(hold c).length≤1000):za6 P.up (.glob 390) [.ref 0] [] (Hp.of [.dict false (zaq hold)]) (DK (.lst ((za1 hold 5).map zdi)) [.dict false (zaq hold)]):=by
 refine zb0 B (?_:Sm P (w32 P hold))
 refine .tt (.ok (.loopN B 7 5 (H32 hold) (fun X X=>True) () (.to 1 []) trivial (fun X X X=>⟨by kernel_rfl,by kernel_rfl⟩) ?_ ?_))
 ·intro X k Z Y
  induction k using Nat.casesOn with
  | zero=>
   refine .loopM B 10 (za2 (z:=names5)) (zqe hold 0) (Fm (ziB hold (za1 hold 0)) names5) [] (.to 1 []) rfl (fun X X X=>⟨by kernel_rfl,by kernel_rfl⟩) ?_ ?_
   ·intro acc j c ec r
    refine (let ww:Wt:=_;(?_:Sm _ ww))
    refine .st (.a (.str (hold c))) (zby hold .str c (mG ec):zar (zaq hold) [c]=some (.str (hold c))) ?_
    refine .loopM B 13 (za2 (z:=hold c)) (zqd hold 0 acc j c) (Fm (inG (za1 hold 0)) (hold c)) [] (.to 9 [("name", .str [c])]) rfl (fun X X X=>⟨by kernel_rfl,by kernel_rfl⟩) ?_ ?_
    ·intro acc2 i m em r2
     refine (let ww:Wt:=_;(?_:Sm _ ww))
     refine .st (.ls ((za1 hold 0).map fun c=> [c])) (rfl:names5.map oneS=(names5.map fun c=> [c]).map .str) ?_
     rcases fT ((za1 hold 0).contains m) with q | q
     ·exact .st (.b true) ((zbi (za1 hold 0) m).trans q) (.asIs (.st .o (an (r2.len (n:=sizeL) (lE (hl c) (by decide))) (rfl:(false || true)=true)) (.next 13 (zqd hold 0 acc j c) (Fm (inG (za1 hold 0)) (hold c)) i (acc2 ++ [oneS m]) (.to 12 []) (r2.one em (by unfold inG;rw [q];rfl)))))
     ·exact .st (.b false) ((zbi (za1 hold 0) m).trans q) (.next 13 (zqd hold 0 acc j c) (Fm (inG (za1 hold 0)) (hold c)) i acc2 (.to 12 []) (r2.no em (by unfold inG;rw [q];rfl)))
    ·intro acc2 r2
     induction acc2 using cL with
     | nil=>exact .asIs (.tt (.st (.txt [] []) (And.intro (rfl:([]:List AV) = []) (And.intro (rfl:([]:List AV) = []) (And.intro (nofun:∀s∈([]:List (List Nat)),zgk s) (nofun:∀s∈([]:List (List Nat)),zgk s)))) (.ff (.next 10 (zqe hold 0) (Fm (ziB hold (za1 hold 0)) names5) j acc (.to 9 []) (r.no ec (by unfold ziB;rw [znB r2];rfl))))))
     | cons x t=>exact .asIs (.tt (.st .len (rfl:Nat.beq (x :: t).length ([]:List AV).length=false) (.tt (.asIs (.st .o (an (r.len (n:=sizeL) (by decide)) (rfl:(false || true)=true)) (.next 10 (zqe hold 0) (Fm (ziB hold (za1 hold 0)) names5) j (acc ++ [oneS c]) (.to 9 []) (r.one ec (by unfold ziB;rw [zk8 r2];rfl))))))))
   ·intro acc r
    obtain rfl:=zjv r
    refine (let ww:Wt:=_;(?_:Sm _ ww))
    exact .froz 8 ((za1 hold (0+1)).map zdi) (.next 7 (H32 hold) (fun X X=>True) 0 () (.to 1 []) trivial)
  | succ k=>
   refine .loopM B 10 (za2 (z:=names5)) (zqe hold (k+1)) (Fm (ziB hold (za1 hold (k+1))) names5) [] (.to 1 []) rfl (fun X X X=>⟨by kernel_rfl,by kernel_rfl⟩) ?_ ?_
   ·intro acc j c ec r
    refine (let ww:Wt:=_;(?_:Sm _ ww))
    refine .st (.a (.str (hold c))) (zby hold .str c (mG ec):zar (zaq hold) [c]=some (.str (hold c))) ?_
    refine .loopM B 13 (za2 (z:=hold c)) (zqd hold (k+1) acc j c) (Fm (inG (za1 hold (k+1))) (hold c)) [] (.to 9 [("name", .str [c])]) rfl (fun X X X=>⟨by kernel_rfl,by kernel_rfl⟩) ?_ ?_
    ·intro acc2 i m em r2
     refine (let ww:Wt:=_;(?_:Sm _ ww))
     refine .st (.ls ((za1 hold (k+1)).map fun c=> [c])) (ys32 hold k) ?_
     rcases fT ((za1 hold (k+1)).contains m) with q | q
     ·exact .st (.b true) ((zbi (za1 hold (k+1)) m).trans q) (.asIs (.st .o (an (r2.len (n:=sizeL) (lE (hl c) (by decide))) (rfl:(false || true)=true)) (.next 13 (zqd hold (k+1) acc j c) (Fm (inG (za1 hold (k+1))) (hold c)) i (acc2 ++ [oneS m]) (.to 12 []) (r2.one em (by unfold inG;rw [q];rfl)))))
     ·exact .st (.b false) ((zbi (za1 hold (k+1)) m).trans q) (.next 13 (zqd hold (k+1) acc j c) (Fm (inG (za1 hold (k+1))) (hold c)) i acc2 (.to 12 []) (r2.no em (by unfold inG;rw [q];rfl)))
    ·intro acc2 r2
     induction acc2 using cL with
     | nil=>exact .asIs (.tt (.st (.txt [] []) (And.intro (rfl:([]:List AV) = []) (And.intro (rfl:([]:List AV) = []) (And.intro (nofun:∀s∈([]:List (List Nat)),zgk s) (nofun:∀s∈([]:List (List Nat)),zgk s)))) (.ff (.next 10 (zqe hold (k+1)) (Fm (ziB hold (za1 hold (k+1))) names5) j acc (.to 9 []) (r.no ec (by unfold ziB;rw [znB r2];rfl))))))
     | cons x t=>exact .asIs (.tt (.st .len (rfl:Nat.beq (x :: t).length ([]:List AV).length=false) (.tt (.asIs (.st .o (an (r.len (n:=sizeL) (by decide)) (rfl:(false || true)=true)) (.next 10 (zqe hold (k+1)) (Fm (ziB hold (za1 hold (k+1))) names5) j (acc ++ [oneS c]) (.to 9 []) (r.one ec (by unfold ziB;rw [zk8 r2];rfl))))))))
   ·intro acc r
    obtain rfl:=zjv r
    refine (let ww:Wt:=_;(?_:Sm _ ww))
    exact .froz 8 ((za1 hold ((k+1)+1)).map zdi) (.next 7 (H32 hold) (fun X X=>True) (k+1) () (.to 1 []) trivial)
 ·intro X Z
  refine (let ww:Wt:=_;(?_:Sm _ ww))
  exact .asIs (.endD 1 (.lst ((za1 hold 5).map zdi)) [.dict false (zaq hold)] [0])
end
def srt(hold:Nat→List Nat)(F:Nat→List Nat)(c:Nat):List (List Nat):=zfS (zaa ((hold c).map F))
def zqF(hold:Nat→List Nat)(F:Nat→List Nat)(c:Nat):List Nat:=[40]++zaB [] (srt hold F c) ++ [41]
def za5(hold:Nat→List Nat):Nat→Nat→List Nat
 | 0,_=> []
 | k+1,c=>zqF hold (za5 hold k) c
theorem zcZ(l:List (List Nat)):(zaB [] l).length=(l.map List.length).sum:=by
 rw [zaA,List.length_flatten]
theorem zdQ(l:List (List Nat)):((zaa l).map List.length).sum≤(l.map List.length).sum∧(zaa l).length≤l.length:=by
 induction l with
 | nil=>exact ⟨rL _,rL _⟩
 | cons x r ih=>
  rw [zaa]
  induction (zaa r).contains x with
  | true=>exact ⟨lT ih.1 (Nat.le_add_left _ _),Nat.le_succ_of_le ih.2⟩
  | false=>exact ⟨Nat.add_le_add_left ih.1 _,Nat.succ_le_succ ih.2⟩
theorem zbX{α:Type}(l:List α)(f:α→Nat)(b:Nat)(h:∀x∈l,f x≤b):(l.map f).sum≤l.length*b:=by
 induction l with
 | nil=>simp
 | cons x r ih=>
  have h1:=h x mS
  have h2:=ih fun y hy=>h y (mM _ hy)
  rw [List.map_cons,List.sum_cons,List.length_cons,Nat.succ_mul];lia
theorem ziV{hold:Nat→List Nat}{F:Nat→List Nat}{c b:Nat}(hl:(hold c).length≤21)(h:∀m∈hold c,(F m).length≤b):((srt hold F c).map List.length).sum≤21*b:=by
 unfold srt zfS
 rw [((List.mergeSort_perm (zaa ((hold c).map F)) leS).map List.length).sum_nat]
 refine lT (zdQ _).1 ?_
 rw [List.map_map]
 exact lT (zbX (hold c) (fun m=>(F m).length) b h) (Nat.mul_le_mul_right b hl)
noncomputable def bB:Nat→Nat
 | 0=>0
 | k+1=>2+21*bB k
theorem zf8{hold:Nat→List Nat}(hl:∀c,(hold c).length≤21):∀k c,(za5 hold k c).length≤bB k
 | 0,c=>rL _
 | k+1,c=>by
  have:=ziV (F:=za5 hold k) (hl c) (fun m X=>zf8 hl k m)
  show (zqF hold (za5 hold k) c).length≤2+21*bB k
  unfold zqF
  rw [List.length_append,List.length_append,zcZ,List.length_singleton,List.length_singleton]
  lia
structure OkB(hold:Nat→List Nat)(F:Nat→List Nat)(c:Nat):Prop where
 a:Nat.blt ((hold c).map F).length 4000=true
 b:Nat.blt (zaa ((hold c).map F)).length 64=true
 j:Nat.ble (((srt hold F c).map List.length).sum+(srt hold F c).length*0) sizeL=true
 c1:Nat.ble (1+(zaB [] (srt hold F c)).length) sizeL=true
 c2:Nat.ble (([40]++zaB [] (srt hold F c)).length+1) sizeL=true
theorem okB{hold:Nat→List Nat}(hl:∀c,(hold c).length≤21)(k c:Nat)(hk:k<5):OkB hold (za5 hold k) c:=by
 have h0:=ziV (F:=za5 hold k) (hl c) (fun m X=>zf8 hl k m)
 have hb:21*bB k+2≤sizeL:=(by decide:∀k,k<5→21*bB k+2≤sizeL) k hk
 have hm:((hold c).map (za5 hold k)).length≤21:=by rw [List.length_map];exact hl c
 refine ⟨bt (lE hm (by decide)),bt (lE (lT (zdQ _).2 hm) (by decide)),?_,?_,?_⟩
 ·rw [Nat.mul_zero];exact bt (lT h0 (lT (Nat.le_add_right _ 2) hb))
 ·rw [zcZ,Nat.add_comm];exact bt (lT (Nat.add_le_add_right h0 1) (lT (Nat.le_succ _) hb))
 ·rw [List.length_append,zcZ,List.length_singleton,Nat.add_comm 1];exact bt (lT (Nat.add_le_add_right h0 2) hb)
def dL(f:Nat→AV)(j:Nat):List (List Nat×AV):=(names5.take j).map fun c=>([c],f c)
theorem zdb(f:Nat→AV)(j:Nat):Nat.ble (dL f j).length.succ sizeL=true:=bt (by unfold dL;rw [List.length_map];exact lT (Nat.succ_le_succ (List.length_take_le' ..)) (by decide))
theorem zaK{f:Nat→AV}{d:List (List Nat×AV)}{j c:Nat}(r:d=dL f j)(e:names5[j]? = some c):zcj d [c] (f c)=dL f (j+1):=by
 subst r
 match j,e with
 | 0,e | 1,e | 2,e | 3,e | 4,e=>cases e;rfl
 | j+5,e=>exact no e
def fB(hold:Nat→List Nat)(k c:Nat):AV:= .str (za5 hold k c)
noncomputable def zt9(k:Nat):Nat:=Nat.casesOn (motive:=fun X=>Nat) k 5 fun k=>3*k+10
noncomputable def zsk(hold:Nat→List Nat):Nat→List AO
 | 0=> []
 | k+1=>zsk hold k ++ [.other, .dict false (dL (fB hold (k+1)) 5), .other]
def B33(hold:Nat→List Nat)(p k:Nat):List AO:=[.dict false (zaq hold), .frame [], .cell (some (.ref 0)), .cell (some (.ref p)), .other, .dict false (dL (fB hold 0) 5), .other, .range 0 5 1, .riter (0+(k:Int)*1) (((5:Nat):Int)-k) 1]
def zuV(hold:Nat→List Nat)(d:List (List Nat×AV))(j:Nat):Hp:= .of [.dict false (zaq hold), .frame [], .cell (some (.ref 0)), .cell none, .siter names5 j, .dict false d, .frame []]
def H33(hold:Nat→List Nat)(_:Unit)(k:Nat):Hp:= .of (B33 hold (zt9 k) k++zsk hold k)
def zlh(hold:Nat→List Nat)(k:Nat)(d:List (List Nat×AV))(j:Nat):Hp:= .of (B33 hold (zt9 k) (k+1)++(zsk hold k ++ [.siter names5 j, .dict false d, .frame []]))
def zlg(hold:Nat→List Nat)(k:Nat)(d:List (List Nat×AV))(j c:Nat)(acc:List AV)(i:Nat):Hp:= .of (B33 hold (zt9 k) (k+1)++(zsk hold k ++ [.siter names5 (j+1), .dict false d, .frame [("name", .str [c])], .siter (hold c) i, .list false acc, .frame []]))
theorem zr8(F:Nat→List Nat)(l:List Nat):(l.map fun m=>AV.str (F m))=(l.map F).map .str:=by rw [List.map_map];rfl
section
variable {P:PM T3}
def w33(P:PM T3)(hold:Nat→List Nat):Wt:=dW P (zah pw3 33 none,[]) [.ref 0] [] [.dict false (zaq hold)] (.ref 1) [.dict false (zaq hold), .dict false (dL (fB hold 5) 5)]
set_option maxHeartbeats 1000000
theorem ziu(B:Tbl T3 P.c)(hold:Nat→List Nat)(hl:∀c,(hold c).length≤21)(hm:∀c,∀m∈hold c,m∈names5):za6 P.up (.glob 395) [.ref 0] [] (Hp.of [.dict false (zaq hold)]) (DK (.ref 1) [.dict false (zaq hold), .dict false (dL (fB hold 5) 5)]):=by
 refine zb0 B (?_:Sm P (w33 P hold))
 refine .loopM B 7 (za2 (z:=names5)) (zuV hold) (fun d j=>d=dL (fB hold 0) j) [] (.to 1 []) rfl (fun X X X=>⟨by kernel_rfl,by kernel_rfl⟩) ?_ ?_
 ·intro d j c e r
  refine (let ww:Wt:=_;(?_:Sm _ ww))
  exact .st .o (an (r▸zdb (fB hold 0) j:Nat.ble d.length.succ sizeL=true) (rfl:(false || true)=true)) (.next 7 (zuV hold) (fun d j=>d=dL (fB hold 0) j) j (zcj d [c] (.str [])) (.to 6 []) (zaK r e))
 intro d r
 subst r
 refine (let ww:Wt:=_;(?_:Sm _ ww))
 refine .asIs (.ok (.loopN B 9 5 (H33 hold) (fun X X=>True) () (.to 1 []) trivial (fun X X X=>⟨by kernel_rfl,by kernel_rfl⟩) ?_ ?_))
 ·intro X k hk Z
  match k,hk with
  | 0,_=>
   refine .loopM B 12 (za2 (z:=names5)) (zlh hold 0) (fun d j=>d=dL (fB hold 1) j) [] (.to 1 []) rfl (fun X X X=>⟨by kernel_rfl,by kernel_rfl⟩) ?_ ?_
   ·intro d j c ec r
    have ok:=okB hl 0 c (by decide)
    refine (let ww:Wt:=_;(?_:Sm _ ww))
    refine .st (.a (.str (hold c))) (zby hold .str c (mG ec):zar (zaq hold) [c]=some (.str (hold c))) ?_
    refine .loopM B 15 (za2 (z:=hold c)) (zlg hold 0 d j c) (Mp1 (fB hold 0) (hold c)) [] (.to 11 [("name", .str [c])]) rfl (fun X X X=>⟨by kernel_rfl,by kernel_rfl⟩) ?_ ?_
    ·intro acc i m em r2
     refine (let ww:Wt:=_;(?_:Sm _ ww))
     exact .st (.a (fB hold 0 m)) (zby (za5 hold 0) .str m (hm c m (mG em)):zar (dL (fB hold 0) 5) [m]=some (fB hold 0 m)) (.asIs (.st .o (an (r2.len (n:=sizeL) (lE (hl c) (by decide))) (rfl:(false || true)=true)) (.next 15 (zlg hold 0 d j c) (Mp1 (fB hold 0) (hold c)) i (acc ++ [fB hold 0 m]) (.to 14 []) (r2.next em))))
    ·intro acc r2
     refine (let ww:Wt:=_;(?_:Sm _ ww))
     exact .asIs (.st (.ls ((hold c).map (za5 hold 0))) (r2.all.trans (zr8 (za5 hold 0) (hold c))) (.st .o ok.a (.rf (.ls (zaa ((hold c).map (za5 hold 0)))) ((zaa ((hold c).map (za5 hold 0))).map SV.str) (.st .o ok.b (.rf (.ls (srt hold (za5 hold 0) c)) ((srt hold (za5 hold 0) c).map AV.str) (.st .o ok.j (.st .o ok.c1 (.st .o ok.c2 (.st .o (an (r▸zdb (fB hold 1) j:Nat.ble d.length.succ sizeL=true) (rfl:(false || true)=true)) (.next 12 (zlh hold 0) (fun d j=>d=dL (fB hold 1) j) j (zcj d [c] (fB hold 1 c)) (.to 11 []) (zaK r ec)))))))))))
   ·intro d r
    subst r
    refine (let ww:Wt:=_;(?_:Sm _ ww))
    exact .asIs (.next 9 (H33 hold) (fun X X=>True) 0 () (.to 1 []) trivial)
  | 1,_=>
   refine .loopM B 15 (za2 (z:=names5)) (zlh hold 1) (fun d j=>d=dL (fB hold 2) j) [] (.to 1 []) rfl (fun X X X=>⟨by kernel_rfl,by kernel_rfl⟩) ?_ ?_
   ·intro d j c ec r
    have ok:=okB hl 1 c (by decide)
    refine (let ww:Wt:=_;(?_:Sm _ ww))
    refine .st (.a (.str (hold c))) (zby hold .str c (mG ec):zar (zaq hold) [c]=some (.str (hold c))) ?_
    refine .loopM B 18 (za2 (z:=hold c)) (zlg hold 1 d j c) (Mp1 (fB hold 1) (hold c)) [] (.to 14 [("name", .str [c])]) rfl (fun X X X=>⟨by kernel_rfl,by kernel_rfl⟩) ?_ ?_
    ·intro acc i m em r2
     refine (let ww:Wt:=_;(?_:Sm _ ww))
     exact .st (.a (fB hold 1 m)) (zby (za5 hold 1) .str m (hm c m (mG em)):zar (dL (fB hold 1) 5) [m]=some (fB hold 1 m)) (.asIs (.st .o (an (r2.len (n:=sizeL) (lE (hl c) (by decide))) (rfl:(false || true)=true)) (.next 18 (zlg hold 1 d j c) (Mp1 (fB hold 1) (hold c)) i (acc ++ [fB hold 1 m]) (.to 17 []) (r2.next em))))
    ·intro acc r2
     refine (let ww:Wt:=_;(?_:Sm _ ww))
     exact .asIs (.st (.ls ((hold c).map (za5 hold 1))) (r2.all.trans (zr8 (za5 hold 1) (hold c))) (.st .o ok.a (.rf (.ls (zaa ((hold c).map (za5 hold 1)))) ((zaa ((hold c).map (za5 hold 1))).map SV.str) (.st .o ok.b (.rf (.ls (srt hold (za5 hold 1) c)) ((srt hold (za5 hold 1) c).map AV.str) (.st .o ok.j (.st .o ok.c1 (.st .o ok.c2 (.st .o (an (r▸zdb (fB hold 2) j:Nat.ble d.length.succ sizeL=true) (rfl:(false || true)=true)) (.next 15 (zlh hold 1) (fun d j=>d=dL (fB hold 2) j) j (zcj d [c] (fB hold 2 c)) (.to 14 []) (zaK r ec)))))))))))
   ·intro d r
    subst r
    refine (let ww:Wt:=_;(?_:Sm _ ww))
    exact .asIs (.next 9 (H33 hold) (fun X X=>True) 1 () (.to 1 []) trivial)
  | 2,_=>
   refine .loopM B 18 (za2 (z:=names5)) (zlh hold 2) (fun d j=>d=dL (fB hold 3) j) [] (.to 1 []) rfl (fun X X X=>⟨by kernel_rfl,by kernel_rfl⟩) ?_ ?_
   ·intro d j c ec r
    have ok:=okB hl 2 c (by decide)
    refine (let ww:Wt:=_;(?_:Sm _ ww))
    refine .st (.a (.str (hold c))) (zby hold .str c (mG ec):zar (zaq hold) [c]=some (.str (hold c))) ?_
    refine .loopM B 21 (za2 (z:=hold c)) (zlg hold 2 d j c) (Mp1 (fB hold 2) (hold c)) [] (.to 17 [("name", .str [c])]) rfl (fun X X X=>⟨by kernel_rfl,by kernel_rfl⟩) ?_ ?_
    ·intro acc i m em r2
     refine (let ww:Wt:=_;(?_:Sm _ ww))
     exact .st (.a (fB hold 2 m)) (zby (za5 hold 2) .str m (hm c m (mG em)):zar (dL (fB hold 2) 5) [m]=some (fB hold 2 m)) (.asIs (.st .o (an (r2.len (n:=sizeL) (lE (hl c) (by decide))) (rfl:(false || true)=true)) (.next 21 (zlg hold 2 d j c) (Mp1 (fB hold 2) (hold c)) i (acc ++ [fB hold 2 m]) (.to 20 []) (r2.next em))))
    ·intro acc r2
     refine (let ww:Wt:=_;(?_:Sm _ ww))
     exact .asIs (.st (.ls ((hold c).map (za5 hold 2))) (r2.all.trans (zr8 (za5 hold 2) (hold c))) (.st .o ok.a (.rf (.ls (zaa ((hold c).map (za5 hold 2)))) ((zaa ((hold c).map (za5 hold 2))).map SV.str) (.st .o ok.b (.rf (.ls (srt hold (za5 hold 2) c)) ((srt hold (za5 hold 2) c).map AV.str) (.st .o ok.j (.st .o ok.c1 (.st .o ok.c2 (.st .o (an (r▸zdb (fB hold 3) j:Nat.ble d.length.succ sizeL=true) (rfl:(false || true)=true)) (.next 18 (zlh hold 2) (fun d j=>d=dL (fB hold 3) j) j (zcj d [c] (fB hold 3 c)) (.to 17 []) (zaK r ec)))))))))))
   ·intro d r
    subst r
    refine (let ww:Wt:=_;(?_:Sm _ ww))
    exact .asIs (.next 9 (H33 hold) (fun X X=>True) 2 () (.to 1 []) trivial)
  | 3,_=>
   refine .loopM B 21 (za2 (z:=names5)) (zlh hold 3) (fun d j=>d=dL (fB hold 4) j) [] (.to 1 []) rfl (fun X X X=>⟨by kernel_rfl,by kernel_rfl⟩) ?_ ?_
   ·intro d j c ec r
    have ok:=okB hl 3 c (by decide)
    refine (let ww:Wt:=_;(?_:Sm _ ww))
    refine .st (.a (.str (hold c))) (zby hold .str c (mG ec):zar (zaq hold) [c]=some (.str (hold c))) ?_
    refine .loopM B 24 (za2 (z:=hold c)) (zlg hold 3 d j c) (Mp1 (fB hold 3) (hold c)) [] (.to 20 [("name", .str [c])]) rfl (fun X X X=>⟨by kernel_rfl,by kernel_rfl⟩) ?_ ?_
    ·intro acc i m em r2
     refine (let ww:Wt:=_;(?_:Sm _ ww))
     exact .st (.a (fB hold 3 m)) (zby (za5 hold 3) .str m (hm c m (mG em)):zar (dL (fB hold 3) 5) [m]=some (fB hold 3 m)) (.asIs (.st .o (an (r2.len (n:=sizeL) (lE (hl c) (by decide))) (rfl:(false || true)=true)) (.next 24 (zlg hold 3 d j c) (Mp1 (fB hold 3) (hold c)) i (acc ++ [fB hold 3 m]) (.to 23 []) (r2.next em))))
    ·intro acc r2
     refine (let ww:Wt:=_;(?_:Sm _ ww))
     exact .asIs (.st (.ls ((hold c).map (za5 hold 3))) (r2.all.trans (zr8 (za5 hold 3) (hold c))) (.st .o ok.a (.rf (.ls (zaa ((hold c).map (za5 hold 3)))) ((zaa ((hold c).map (za5 hold 3))).map SV.str) (.st .o ok.b (.rf (.ls (srt hold (za5 hold 3) c)) ((srt hold (za5 hold 3) c).map AV.str) (.st .o ok.j (.st .o ok.c1 (.st .o ok.c2 (.st .o (an (r▸zdb (fB hold 4) j:Nat.ble d.length.succ sizeL=true) (rfl:(false || true)=true)) (.next 21 (zlh hold 3) (fun d j=>d=dL (fB hold 4) j) j (zcj d [c] (fB hold 4 c)) (.to 20 []) (zaK r ec)))))))))))
   ·intro d r
    subst r
    refine (let ww:Wt:=_;(?_:Sm _ ww))
    exact .asIs (.next 9 (H33 hold) (fun X X=>True) 3 () (.to 1 []) trivial)
  | 4,_=>
   refine .loopM B 24 (za2 (z:=names5)) (zlh hold 4) (fun d j=>d=dL (fB hold 5) j) [] (.to 1 []) rfl (fun X X X=>⟨by kernel_rfl,by kernel_rfl⟩) ?_ ?_
   ·intro d j c ec r
    have ok:=okB hl 4 c (by decide)
    refine (let ww:Wt:=_;(?_:Sm _ ww))
    refine .st (.a (.str (hold c))) (zby hold .str c (mG ec):zar (zaq hold) [c]=some (.str (hold c))) ?_
    refine .loopM B 27 (za2 (z:=hold c)) (zlg hold 4 d j c) (Mp1 (fB hold 4) (hold c)) [] (.to 23 [("name", .str [c])]) rfl (fun X X X=>⟨by kernel_rfl,by kernel_rfl⟩) ?_ ?_
    ·intro acc i m em r2
     refine (let ww:Wt:=_;(?_:Sm _ ww))
     exact .st (.a (fB hold 4 m)) (zby (za5 hold 4) .str m (hm c m (mG em)):zar (dL (fB hold 4) 5) [m]=some (fB hold 4 m)) (.asIs (.st .o (an (r2.len (n:=sizeL) (lE (hl c) (by decide))) (rfl:(false || true)=true)) (.next 27 (zlg hold 4 d j c) (Mp1 (fB hold 4) (hold c)) i (acc ++ [fB hold 4 m]) (.to 26 []) (r2.next em))))
    ·intro acc r2
     refine (let ww:Wt:=_;(?_:Sm _ ww))
     exact .asIs (.st (.ls ((hold c).map (za5 hold 4))) (r2.all.trans (zr8 (za5 hold 4) (hold c))) (.st .o ok.a (.rf (.ls (zaa ((hold c).map (za5 hold 4)))) ((zaa ((hold c).map (za5 hold 4))).map SV.str) (.st .o ok.b (.rf (.ls (srt hold (za5 hold 4) c)) ((srt hold (za5 hold 4) c).map AV.str) (.st .o ok.j (.st .o ok.c1 (.st .o ok.c2 (.st .o (an (r▸zdb (fB hold 5) j:Nat.ble d.length.succ sizeL=true) (rfl:(false || true)=true)) (.next 24 (zlh hold 4) (fun d j=>d=dL (fB hold 5) j) j (zcj d [c] (fB hold 5 c)) (.to 23 []) (zaK r ec)))))))))))
   ·intro d r
    subst r
    refine (let ww:Wt:=_;(?_:Sm _ ww))
    exact .asIs (.next 9 (H33 hold) (fun X X=>True) 4 () (.to 1 []) trivial)
 ·intro X Z
  refine (let ww:Wt:=_;(?_:Sm _ ww))
  exact .asIs (.endD 1 (.ref 1) [.dict false (zaq hold), .dict false (dL (fB hold 5) 5)] [0,22])
end
theorem zib(hold:Nat→List Nat)(k:Nat):za1 hold (k+1)=names5.filter fun c=>(hold c).any fun m=>(za1 hold k).contains m:=rfl
section
variable {hold:Nat→List Nat}
theorem zbb{k c:Nat}(hc:c∈names5):c∈za1 hold (k+1)↔∃m∈hold c,m∈za1 hold k:=by
 rw [zib,List.mem_filter,List.any_eq_true]
 simp only [List.contains_eq_mem,decide_eq_true_eq]
 exact ⟨fun h=>h.2,fun h=>⟨hc,h⟩⟩
theorem zc9(hold:Nat→List Nat):∀k c,c∈za1 hold (k+1)→c∈za1 hold k
 | 0,c,h=>zd0 hold 1 c h
 | k+1,c,h=>by
  have hc:=zd0 hold _ c h
  obtain ⟨m,h1,h2⟩:=(zbb hc).mp h
  exact (zbb hc).mpr ⟨m,h1,zc9 hold k m h2⟩
theorem zic(hold:Nat→List Nat):∀k,(za1 hold (k+1)).Sublist (za1 hold k)
 | 0=>List.filter_sublist
 | k+1=>by
  have e:za1 hold (k+1+1)=(za1 hold (k+1)).filter fun c=>(hold c).any fun m=>(za1 hold (k+1)).contains m:=by
   have gen:∀(l:List Nat) (p q:Nat→Bool),(∀c,p c=true→q c=true)→l.filter p=(l.filter q).filter p:=by
    intro l p q h
    rw [List.filter_filter]
    refine List.filter_congr fun c X=>?_
    induction hp:p c with
    | false=>rfl
    | true=>rw [h c hp];rfl
   refine gen names5 (fun c=>(hold c).any fun m=>(za1 hold (k+1)).contains m) (fun c=>(hold c).any fun m=>(za1 hold k).contains m) fun c q=>?_
   rw [List.any_eq_true] at q⊢
   obtain ⟨m,h1,h2⟩:=q
   simp only [List.contains_eq_mem,decide_eq_true_eq] at h2⊢
   exact ⟨m,h1,zc9 hold k m h2⟩
  rw [e]
  exact List.filter_sublist
theorem zid(hold:Nat→List Nat):∀k,za1 hold (k+1)=za1 hold k∨(za1 hold (k+1)).length+(k+1)≤5:=by
 have h:∀k,za1 hold (k+1)=za1 hold k∨(za1 hold (k+1)).length<(za1 hold k).length:=by
  intro k
  have s:=zic hold k
  rcases Nat.lt_or_ge (za1 hold (k+1)).length (za1 hold k).length with q | q
  ·exact Or.inr q
  ·exact Or.inl (s.eq_of_length_le q)
 intro k
 induction k with
 | zero=>
  rcases h 0 with q | q
  ·exact Or.inl q
  ·have:=zk1 hold 0
   exact Or.inr (by lia)
 | succ k ih=>
  rcases ih with q | q
  ·left
   show zsj hold (za1 hold (k+1))=zsj hold (za1 hold k)
   rw [q]
  ·rcases h (k+1) with q2 | q2
   ·exact Or.inl q2
   ·exact Or.inr (by lia)
theorem zk2(hold:Nat→List Nat):za1 hold 6=za1 hold 5:=by
 rcases zid hold 5 with q | q
 ·exact q
 ·lia
theorem zh0{c:Nat}(hc:c∈names5):c∈za1 hold 5↔∃m∈hold c,m∈za1 hold 5:=by
 rw [←zbb hc,zk2]
end
noncomputable def mxL(l:List Nat):Nat:=l.foldl (fun a x=>max a (x+1)) 0
theorem zjK(l:List Nat):∀a:Nat,a≤l.foldl (fun a x=>max a (x+1)) a∧(∀x∈l,x<l.foldl (fun a x=>max a (x+1)) a)∧(∀B,a≤B→(∀x∈l,x<B)→l.foldl (fun a x=>max a (x+1)) a≤B):=by
 induction l with
 | nil=>intro a;exact ⟨rL _,(fun x h=>nomatch h),fun B h X=>h⟩
 | cons x r ih=>
  intro a
  obtain ⟨h1,h2,h3⟩:=ih (max a (x+1))
  rw [List.foldl_cons]
  refine ⟨lT (Nat.le_max_left ..) h1,fun y hy=>?_,fun B hB hx=>h3 B (Nat.max_le.mpr ⟨hB,hx x mS⟩) fun y hy=>hx y (mM _ hy)⟩
  rcases cP hy with rfl | hy
  ·exact lL (sS _) (lT (Nat.le_max_right ..) h1)
  ·exact h2 y hy
theorem zcn{l:List Nat}{x:Nat}(h:x∈l):x<mxL l:=(zjK l 0).2.1 x h
theorem zdC{l:List Nat}{B:Nat}(h:∀x∈l,x<B):mxL l≤B:=(zjK l 0).2.2 B (Nat.zero_le _) h
theorem zjL(l:List Nat):1+(l.map fun (x:Nat)=>(x:Int)).foldl max (-1)=(mxL l:Int):=by
 have h:∀(l:List Nat) (a:Nat),1+(l.map fun (x:Nat)=>(x:Int)).foldl max ((a:Int)-1)=((l.foldl (fun a x=>max a (x+1)) a:Nat):Int):=by
  intro l
  induction l with
  | nil=>exact fun a=>(Int.add_comm 1 _).trans (Int.sub_add_cancel _ 1)
  | cons x r ih=>
   intro a
   rw [List.map_cons,List.foldl_cons,List.foldl_cons,←ih]
   congr 3
   lia
 exact h l 0
def zaz(l:List Nat):List Nat:=(List.range (mxL l)).map fun p=>if l.contains p then 1 else 0
noncomputable def nvl:List Nat→Nat
 | []=>0
 | d :: r=>d+2*nvl r
def zaN(l:List Nat):Nat:=nvl (zaz l)
theorem zgM(l:List Nat):zbr 1 (l.map fun (x:Nat)=>(x:Int))=(nvl l:Int):=by
 induction l with
 | nil=>rfl
 | cons x r ih=>rw [List.map_cons,zbr,ih,nvl];push_cast;lia
theorem zcP(xs ys:List Nat):nvl (xs++ys)=nvl xs+2^xs.length*nvl ys:=by
 induction xs with
 | nil=>simp [nvl]
 | cons x r ih=>
  rw [List.cons_append,nvl,nvl,ih,List.length_cons,Nat.pow_succ]
  have:2*(2^r.length*nvl ys)=2^r.length*2*nvl ys:=by rw [Nat.mul_comm (2^r.length) 2,Nat.mul_assoc]
  lia
theorem zdB(f:Nat→Nat)(M:Nat):nvl ((List.range M).map f)=((List.range M).map fun p=>f p*2^p).sum:=by
 induction M with
 | zero=>rfl
 | succ M ih=>
  rw [List.range_succ,List.map_append,zcP,ih,List.map_append,List.sum_append,List.length_map,List.length_range]
  simp [nvl,Nat.mul_comm]
theorem zjC(l:List Nat)(h:∀d∈l,d≤1):nvl l<2^l.length:=by
 induction l with
 | nil=>decide
 | cons x r ih=>
  have h1:=h x mS
  have h2:=ih fun y hy=>h y (mM _ hy)
  rw [nvl,List.length_cons,Nat.pow_succ];lia
theorem zgN:∀(n:Nat) (l:List Nat),(∀d∈l,d≤1)→nvl l/2^n%2=l.getD n 0
 | n, [],_=>by simp [nvl]
 | 0,d :: r,h=>by
  have h1:=h d mS
  simp only [nvl,Nat.pow_zero,Nat.div_one,List.getD_cons_zero];lia
 | n+1,d :: r,h=>by
  have h1:=h d mS
  rw [List.getD_cons_succ,←zgN n r fun y hy=>h y (mM _ hy),nvl,Nat.pow_succ,Nat.mul_comm (2^n) 2,←Nat.div_div_eq_div_mul]
  congr 2
  lia
theorem zc4(l:List Nat):∀d∈zaz l,d≤1:=by
 intro d hd
 obtain ⟨p,X,rfl⟩:=mP hd
 split <;> lia
theorem zbN(l:List Nat):(zaz l).length=mxL l:=by unfold zaz;rw [List.length_map,List.length_range]
theorem zbU(l:List Nat)(n:Nat):zaN l/2^n%2=if n∈l then 1 else 0:=by
 unfold zaN
 rw [zgN n _ (zc4 l),List.getD_eq_getElem?_getD]
 unfold zaz
 rw [List.getElem?_map]
 by_cases h:n<mxL l
 ·rw [List.getElem?_range h];simp
 ·have h2:n∉l:=fun hc=>h (zcn hc)
  rw [if_neg h2,List.getElem?_eq_none (by rw [List.length_range];lia)];rfl
theorem zhs{l:List Nat}{B:Nat}(h:∀x∈l,x<B):zaN l<2^B:=by
 have h1:=zjC _ (zc4 l)
 rw [zbN] at h1
 exact lL h1 (pR (by decide) (zdC h))
theorem zkz{l m:List Nat}(h:zaN l=zaN m)(n:Nat):n∈l↔n∈m:=by
 have h1:=zbU l n
 rw [h,zbU m n] at h1
 by_cases a:n∈l <;> by_cases b:n∈m <;> simp_all
theorem zfo{l:List Nat}:∀(d:Nat),zaN l=((List.range (mxL l+d)).map fun p=>(if l.contains p then 1 else 0)*2^p).sum
 | 0=>zdB _ _
 | d+1=>by
  rw [←Nat.add_assoc,List.range_succ,List.map_append,List.sum_append,←zfo d]
  have h2:mxL l+d∉l:=fun q=>by have:=zcn q;lia
  simp [h2]
theorem zgj{l m:List Nat}(h:∀n,n∈l↔n∈m):zaN l=zaN m:=by
 have e:mxL l=mxL m:=Nat.le_antisymm (zdC fun x hx=>zcn ((h x).mp hx)) (zdC fun x hx=>zcn ((h x).mpr hx))
 unfold zaN zaz
 rw [e]
 congr 1
 refine List.map_congr_left fun p X=>?_
 have:l.contains p=m.contains p:=by
  rw [List.contains_eq_mem,List.contains_eq_mem];simp [h p]
 rw [this]
theorem ziO(f:Nat→Nat)(n:Nat):∀M,((List.range M).map fun p=>(if p=n then 1 else 0)*f p).sum=if n<M then f n else 0
 | 0=>by simp
 | M+1=>by
  rw [List.range_succ,List.map_append,List.sum_append,ziO f n M]
  simp only [List.map_cons,List.map_nil,List.sum_cons,List.sum_nil]
  by_cases h2:M=n
  ·subst h2;simp
  ·by_cases h1:n<M
   ·have h3:n<M+1:=by lia
    simp [h1,h2,h3]
   ·have h3:¬n<M+1:=by lia
    simp [h1,h2,h3]
theorem zfR(f g:Nat→Nat)(l:List Nat):(l.map fun p=>f p+g p).sum=(l.map f).sum+(l.map g).sum:=by
 induction l with
 | nil=>rfl
 | cons x r ih=>simp only [List.map_cons,List.sum_cons,ih];lia
theorem zeM(f:Nat→Nat)(M:Nat)(l:List Nat)(h:∀x∈l,x<M):(l.map f).sum=((List.range M).map fun p=>l.count p*f p).sum:=by
 induction l with
 | nil=>
  have:∀k,((List.range k).map fun p=>List.count p []*f p).sum=0:=by
   intro k
   induction k with
   | zero=>rfl
   | succ k ih=>rw [List.range_succ,List.map_append,List.sum_append,ih];simp
  rw [this];rfl
 | cons x r ih=>
  have h1:=h x mS
  have h2:=ih fun y hy=>h y (mM _ hy)
  rw [List.map_cons,List.sum_cons,h2]
  have e:((List.range M).map fun p=>List.count p (x :: r)*f p)=(List.range M).map fun p=>(r.count p*f p)+((if p=x then 1 else 0)*f p):=by
   refine List.map_congr_left fun p X=>?_
   rw [List.count_cons]
   by_cases q:p=x
   ·subst q;simp [Nat.add_mul]
   ·have:¬(x==p)=true:=by simpa using fun e=>q e.symm
    rw [if_neg this,if_neg q];simp
  rw [e,zfR,ziO,if_pos h1];lia
theorem zfQ{l:List Nat}(nd:l.Nodup):(l.map fun n=>2^n).sum=zaN l:=by
 rw [zeM (fun n=>2^n) (mxL l) l fun x hx=>zcn hx,zfo 0]
 congr 1
 refine List.map_congr_left fun p X=>?_
 congr 1
 by_cases q:p∈l
 ·have h1:l.count p=1:=nd.count.trans (if_pos q)
  rw [h1];simp [q]
 ·rw [List.count_eq_zero_of_not_mem q];simp [q]
def zgq(hold:Nat→List Nat):Nat→Nat→Nat
 | 0,_=>0
 | k+1,c=>zaN ((hold c).map (zgq hold k))
def num(hold:Nat→List Nat)(c:Nat):Nat:=zgq hold 5 c
section
variable {hold:Nat→List Nat}
theorem zc7{k c m:Nat}(hc:c∈names5)(h:c∉za1 hold (k+1))(hm:m∈hold c):m∉za1 hold k:=fun q=>h ((zbb hc).mpr ⟨m,hm,q⟩)
theorem zdX(hm:∀c∈names5,∀m∈hold c,m∈names5):∀(k c j:Nat),c∈names5→c∉za1 hold k→k≤j→zgq hold j c=zgq hold k c
 | 0,c,j,hc,h,_=>absurd hc h
 | k+1,c,0,hc,h,hj=>absurd hj (Nat.not_succ_le_zero k)
 | k+1,c,j+1,hc,h,hj=>by
  show zaN _=zaN _
  congr 1
  refine List.map_congr_left fun m hmm=>?_
  exact zdX hm k m j (hm c hc m hmm) (zc7 hc h hmm) (Nat.le_of_succ_le_succ hj)
theorem zjD(hm:∀c∈names5,∀m∈hold c,m∈names5){c:Nat}(hc:c∈names5)(h:c∉za1 hold 5):num hold c=zaN ((hold c).map (num hold)):=by
 show zaN _=zaN _
 congr 1
 refine List.map_congr_left fun m hmm=>?_
 exact (zdX hm 4 m 5 (hm c hc m hmm) (zc7 hc h hmm) (by decide)).symm
noncomputable def bN:Nat→Nat
 | 0=>0
 | k+1=>2^bN k
theorem znX(hm:∀c∈names5,∀m∈hold c,m∈names5):∀(k c:Nat),c∈names5→c∉za1 hold k→zgq hold k c<bN k
 | 0,c,hc,h=>absurd hc h
 | k+1,c,hc,h=>by
  refine zhs fun x hx=>?_
  obtain ⟨m,hmm,rfl⟩:=mP hx
  exact znX hm k m (hm c hc m hmm) (zc7 hc h hmm)
theorem zcQ(hm:∀c∈names5,∀m∈hold c,m∈names5){c:Nat}(hc:c∈names5)(h:c∉za1 hold 5):num hold c<65536:=znX hm 5 c hc h
end
noncomputable def zaP(v:Nat):List Nat:=(Str.ofString (toString (v:Int))).cps.toList
theorem zoP(v:Nat):zaP v=(Nat.toDigits 10 v).map Char.toNat:=KIN.signs_num v
theorem zc6(v:Nat):∀c∈zaP v,48≤c∧c≤57:=by
 intro c hc
 rw [zoP] at hc
 obtain ⟨ch,hch,e⟩:=mP hc
 have r:=PyProof.Rows.digit_range (Nat.isDigit_of_mem_toDigits (by decide) (by decide) hch)
 rw [←e];exact r
theorem zhP(v:Nat):strOf (zaP v)=Str.ofString (toString (v:Int)):=by
 unfold strOf zaP;simp
theorem zee{v:Nat}(h:v<10^10):(zaP v).length≤640:=by
 have:=KT.len_num (n:=(v:Int)) (by lia) (by lia)
 have e:(zaP v).length=(Str.ofString (toString (v:Int))).length:=by unfold zaP;exact Array.length_toList
 lia
theorem zgc{v:Nat}(h:v<10^10):zek (v:Int)=some (zaP v):=by
 unfold zek
 rw [Int.natAbs_natCast,if_pos ?_];rfl
 rcases Nat.eq_zero_or_pos v with h0 | h0
 ·subst h0;decide
 ·refine (Nat.log2_lt (by lia)).mpr (lL h ?_)
  exact lT (by decide:10^10≤2^40) (pR (by decide) (by decide))
theorem zfO{v:Nat}(h:v<10^10):zb7 (zaP v)=some (v:Int):=by
 unfold zb7
 rw [if_pos (zee h),zhP]
 exact KIN.num_reads (by lia) (by lia)
theorem zuu(f:Nat→Bool)(h:((List.range 10).all fun k=>!f (48+k))=true){x:Nat}(h1:48≤x)(h2:x≤57):f x=false:=by
 have:=aT h (x-48) (List.mem_range.mpr (Nat.sub_lt_left_of_lt_add h1 (Nat.lt_succ_of_le h2)))
 rw [Nat.add_sub_cancel' h1] at this
 exact Bool.not_eq_true' _▸this
theorem zg5(v:Nat):zaS (zaP v)=zaP v:=by
 unfold zaS
 refine if_pos ?_
 have h:((zaP v).reverse.takeWhile Unicode.isSpace) = []:=by
  induction e:(zaP v).reverse using cL with
  | nil=>rfl
  | cons x r=>
   have hx:=zc6 v x (List.mem_reverse.mp (by rw [e];exact mS))
   rw [List.takeWhile_cons,zuu Unicode.isSpace (by kernel_rfl) hx.1 hx.2];rfl
 have el:(strOf (zaP v)).length=(zaP v).length:=by simp [strOf,Str.length]
 unfold PySem.stripSame PySem.stripLo PySem.stripHi
 simp only [Bool.false_eq_true,if_false,if_true,beq_self_eq_true,Bool.true_and,strOf,List.drop_zero]
 rw [h]
 simp [Str.length]
theorem zlP(v:Nat):(Builtin.Str.occurrences (strOf (zaP v)) (strOf [95]) 0 (zaP v).length ((zaP v).length+1)).isEmpty=true:=by
 have el:(strOf (zaP v)).length=(zaP v).length:=by simp [strOf,Str.length]
 have:=occ_nil_of_no (strOf (zaP v)) (strOf [95]) ((zaP v).length+1) (fun i hi=>?_)
 ·rw [el] at this;rw [this];rfl
 ·induction e:Builtin.Str.subAt (strOf (zaP v)) (strOf [95]) i with
  | false=>rfl
  | true=>
   exfalso
   have h1:=beq_iff_eq.mp e
   have h2:(95:Nat)∈(strOf (zaP v)).cps.extract i (i+(strOf [95]).length):=by rw [h1];simp [strOf]
   obtain ⟨k,hk,e2⟩:=Array.mem_extract_iff_getElem.mp h2
   have h3:(95:Nat)∈zaP v:=by
    have:(95:Nat)∈(strOf (zaP v)).cps:=by rw [←e2];exact Array.getElem_mem _
    simpa [strOf] using this
   have:=zc6 v 95 h3
   lia
def rxV(s:List Nat):Bool:=rxB false s
theorem zj6(s:List Nat):rxV s=s.any (Mine.rxHit #[14,14,4,1,1,9,4294966783,0,0,2147483648,0,0,0,0,0,13,11,9,4294966783,0,0,2147483648,0,0,0,0,0,1]):=rfl
theorem zlO{v:Nat}(h:v<10^10):okV (zaP v):=by
 refine ⟨lT (zee h) (by decide),?_⟩
 show rxV _=false
 rw [zj6]
 rw [List.any_eq_false]
 intro x hx
 have hx:=zc6 v x hx
 exact Bool.eq_false_iff.mp (zuu _ (by kernel_rfl) hx.1 hx.2)
theorem zfw{P:PM T3}{h:Hp}{K:AV→Hp→Prop}(B:Tbl T3 P.c){v:Nat}(hv:v<10^10)(k:K (.int v) h):za6 P.up.up.up (.glob 53) [.str (zaP v)] [] h K:=zit B (zaP v) v (zee hv) (zg5 v) (zlP v) (zfO hv) k
def okC(x:Nat):Prop:=okP x∧x≠10∧x≠13∧x<1114112∧rxV [x]=false
theorem zta:∀x∈unL,zmp x=true∧okC x:=by unfold okC okP;decide +kernel
theorem ztb:∀x∈beL,ze8 x = [x]∧okC x:=by unfold okC okP;decide +kernel
theorem zqX:∀x∈nameL,ze8 x = [x]∧okC x∧za8 [x] = [x-32]∧ze8 (x-32) = [x]∧okC (x-32):=by unfold okC okP;decide +kernel
theorem zoI:∀i∈mathL,∀x∈nameL,ze8 (119808+52*i+x-97) = [x]∧okC (119808+52*i+x-97):=by unfold okC okP;decide +kernel
theorem zoH:∀k,k<12→ze8 (signL.getD k 0)=meanL.getD k []∧okC (signL.getD k 0):=by unfold okC okP;decide +kernel
theorem zea:∀x∈names5,okN [x]∧za8 [x] = [x-32]∧okN [x-32]∧zag [x] = [x]∧zag [x-32] = [x]∧(za8 [x]).length≤sizeL:=by unfold okN;decide +kernel
theorem zhd(c:Nat):ze8 (zbB c) = []∧okC (zbB c):=by
 have h:zbB c∈unL:=zap (p:=fun x=>x∈unL) 27 _ rfl rfl (fun X h=>h)
 have:=zta _ h
 exact ⟨by unfold ze8;rw [this.1];rfl,this.2⟩
theorem zgA(c:Nat):ze8 (za7 c) = [za7 c]∧okC (za7 c):=by
 have h:za7 c∈beL:=zap (p:=fun x=>x∈beL) 20 _ rfl rfl (fun X h=>h)
 exact ztb _ h
theorem ziZ(c:Nat):ze8 (zaJ c)=zab c∧okC (zaJ c):=zoH _ (zej c)
theorem zdJ(c:Nat):ze8 (zbp c) = [nmN c]∧okC (zbp c):=by
 have h:zcT c∈mathL:=zap (p:=fun x=>x∈mathL) 10 _ rfl rfl (fun X h=>h)
 have e:zbp c=119808+52*zcT c+nmN c-97:=by unfold zbp;lia
 rw [e];exact zoI _ h _ (zgQ c)
theorem zeJ{c:Nat}{p:List Nat→Prop}(h:∀x∈[[nmN c],za8 [nmN c],[zbp c],za8 [nmN c] ++ [zbB c]],p x):p (za9 c):=by
 unfold za9
 have h0:c/10%10%4<4:=mT _ (by decide)
 generalize c/10%10%4=i at h0
 match i,h0 with
 | 0,_=>exact h _ (by simp)
 | 1,_=>exact h _ (by simp)
 | 2,_=>exact h _ (by simp)
 | 3,_=>exact h _ (by simp)
theorem zjP{c:Nat}{p:List Nat→Prop}(h:∀x∈[[za7 c] ++ [zaJ c] ++ [zbB c],[zbB c] ++ [za7 c] ++ [zaJ c],[za7 c] ++ [zbB c] ++ [zaJ c]],p x):p (memN c):=by
 unfold memN
 have h0:c/1000000000%10%3<3:=mT _ (by decide)
 generalize c/1000000000%10%3=i at h0
 match i,h0 with
 | 0,_=>exact h _ (by simp)
 | 1,_=>exact h _ (by simp)
 | 2,_=>exact h _ (by simp)
theorem zhH(c:Nat):(za9 c).flatMap ze8 = [nmN c]:=by
 refine zeJ (p:=fun x=>x.flatMap ze8 = [nmN c]) fun x hx=>?_
 have h1:=zqX _ (zgQ c)
 have h2:=zdJ c
 have h3:=zhd c
 simp only [List.mem_cons,List.not_mem_nil,or_false] at hx
 rcases hx with rfl | rfl | rfl | rfl
 ·simp [h1.1]
 ·rw [h1.2.2.1];simp [h1.2.2.2.1]
 ·simp [h2.1]
 ·rw [h1.2.2.1];simp [h1.2.2.2.1,h3.1]
theorem zbE(c:Nat):∀x∈za9 c,okC x:=by
 refine zeJ (p:=fun w=>∀x∈w,okC x) fun w hw=>?_
 have h1:=zqX _ (zgQ c)
 have h2:=zdJ c
 have h3:=zhd c
 simp only [List.mem_cons,List.not_mem_nil,or_false] at hw
 rcases hw with rfl | rfl | rfl | rfl
 ·intro x hx;rw [List.mem_singleton.mp hx];exact h1.2.1
 ·rw [h1.2.2.1];intro x hx;rw [List.mem_singleton.mp hx];exact h1.2.2.2.2
 ·intro x hx;rw [List.mem_singleton.mp hx];exact h2.2
 ·rw [h1.2.2.1]
  intro x hx
  rcases List.mem_append.mp hx with hx | hx
  ·rw [List.mem_singleton.mp hx];exact h1.2.2.2.2
  ·rw [List.mem_singleton.mp hx];exact h3.2
theorem zgY(c:Nat):(memN c).flatMap ze8 = [za7 c]++zab c:=by
 refine zjP (p:=fun x=>x.flatMap ze8 = [za7 c]++zab c) fun x hx=>?_
 have h1:=zgA c
 have h2:=ziZ c
 have h3:=zhd c
 simp only [List.mem_cons,List.not_mem_nil,or_false] at hx
 rcases hx with rfl | rfl | rfl <;> simp [h1.1,h2.1,h3.1]
theorem zcm(c:Nat):∀x∈memN c,okC x:=by
 refine zjP (p:=fun w=>∀x∈w,okC x) fun w hw=>?_
 have h1:=zgA c
 have h2:=ziZ c
 have h3:=zhd c
 simp only [List.mem_cons,List.not_mem_nil,or_false] at hw
 rcases hw with rfl | rfl | rfl <;>
 ·intro x hx
  simp only [List.mem_append,List.mem_singleton] at hx
  rcases hx with (rfl | rfl) | rfl <;> first | exact h1.2 | exact h2.2 | exact h3.2
theorem zov{s:List Nat}(h:∀x∈s,okC x):rxV s=false:=by
 rw [zj6,List.any_eq_false]
 intro x hx
 have:=(h x hx).2.2.2.2
 rw [zj6,List.any_cons,List.any_nil,Bool.or_false] at this
 rw [this];exact Bool.false_ne_true
theorem zp3(c:Nat):okV (memN c):=⟨by rw [zbx];decide,zov (zcm c)⟩
theorem zew{s:List Nat}(h:∀x∈s,okC x):zgk s:=fun x hx=>(h x hx).2.2.2.1
theorem zg3{s:List Nat}(h:∀x∈s,okC x):∀x∈s,okP x:=fun x hx=>(h x hx).1
theorem zh5{c ln:Nat}(h:c≠10):lnN c ln=ln:=by unfold lnN;rw [beq_eq_false_iff_ne.mpr h];rfl
theorem zhm(all:Bool)(set:List Nat)(c:Nat):esc all set c = [92,c]∨esc all set c = [c]∧c∉set:=by
 unfold esc
 induction e:all || decide (c∈set) with
 | true=>exact .inl rfl
 | false=>exact .inr ⟨rfl,of_decide_eq_false (Bool.or_eq_false_iff.mp e).2⟩
theorem zsA{tok w:List Nat}{c:Nat}:tok ++ [c]++w=tok++c :: w:=by rw [List.append_assoc];rfl
theorem znl{all:Bool}(r:List Nat)(ln:Nat):∀(w tok:List Nat),(∀x∈w,x≠10)→qF false ln tok (w.flatMap (esc all [34,92])++34 :: r)=(tok++w,r,true,ln)
 | [],tok,_=>by rw [List.append_nil];rfl
 | c :: w,tok,h=>by
  have h1:=h c mS
  have ih:=znl (all:=all) r ln w (tok ++ [c]) fun x hx=>h x (mM _ hx)
  rw [List.flatMap_cons]
  rcases zhm all [34,92] c with e | ⟨e,q⟩
  ·rw [e]
   show qF false ln tok (92 :: c :: (w.flatMap (esc all [34,92])++34 :: r))=_
   rw [qF,if_neg (by decide),if_pos rfl,qF,zh5 h1,ih,zsA]
  ·rw [e]
   show qF false ln tok (c :: (w.flatMap (esc all [34,92])++34 :: r))=_
   rw [qF,if_neg (fun e:c=34=>q (e▸mS)),if_neg (fun e:c=92=>q (e▸mM _ mS)),zh5 h1,ih,zsA]
theorem zn8{c:Nat}(h:c≠10∧c≠13)(q:c∉[92,32,9]):c∉wsL∧c≠92:=by
 refine ⟨fun e=>?_,fun e=>q (e▸mS)⟩
 simp only [wsL,List.mem_cons,List.not_mem_nil,or_false] at e q
 lia
theorem zkT{all:Bool}{wh:Nat}(hwh:wh∈wsL)(r:List Nat)(ln:Nat):∀(w tok:List Nat),(∀x∈w,x≠10∧x≠13)→bF false ln tok (w.flatMap (esc all [92,32,9])++wh :: r)=(tok++w,r,true,lnN wh ln)
 | [],tok,_=>by
  show bF false ln tok (wh :: r)=_
  rw [bF,if_pos hwh,List.append_nil]
 | c :: w,tok,h=>by
  have h1:=h c mS
  have ih:=zkT (all:=all) hwh r ln w (tok ++ [c]) fun x hx=>h x (mM _ hx)
  rw [List.flatMap_cons]
  rcases zhm all [92,32,9] c with e | ⟨e,q⟩
  ·rw [e]
   show bF false ln tok (92 :: c :: (w.flatMap (esc all [92,32,9])++wh :: r))=_
   rw [bF,if_neg (by decide),if_pos rfl,bF,zh5 h1.1,ih,zsA]
  ·rw [e]
   show bF false ln tok (c :: (w.flatMap (esc all [92,32,9])++wh :: r))=_
   obtain ⟨q3,q4⟩:=zn8 h1 q
   rw [bF,if_neg q3,if_neg q4,ih,zsA]
theorem zrg{all:Bool}{w:List Nat}{wh:Nat}(h:∀x∈w,x≠10∧x≠13)(hwh:wh∈wsL)(ln:Nat)(r:List Nat):zdF ln ([wh] ++ [34]++w.flatMap (esc all [34,92]) ++ [34]++r)=(w,r,lnN wh ln):=by
 have e: [wh] ++ [34]++w.flatMap (esc all [34,92]) ++ [34]++r=wh :: 34 :: (w.flatMap (esc all [34,92])++34 :: r):=by rw [List.append_assoc];rfl
 rw [e,zdF,if_pos hwh,zdF,if_neg (by decide),if_pos rfl,znl r _ w [] (fun x hx=>(h x hx).1)]
 rfl
theorem zp6{all:Bool}{c:Nat}{w:List Nat}{wh:Nat}(h1:c≠10)(h:∀x∈w,x≠10∧x≠13)(hwh:wh∈wsL)(ln:Nat)(r:List Nat):zdF ln (92 :: c :: (w.flatMap (esc all [92,32,9])++wh :: r))=(c :: w,r,lnN wh ln):=by
 rw [zdF,if_neg (by decide),if_neg (by decide),if_pos rfl,bF,zh5 h1,zkT hwh r ln w _ h]
 rfl
theorem znw{way:Nat}{w:List Nat}{wh:Nat}(hw:way<4)(hne:w≠[])(h:∀x∈w,x≠10∧x≠13)(hwh:wh∈wsL)(ln:Nat)(r:List Nat):
  zdF ln (wr way w [wh]++r)=(w,r,lnN wh ln):=by
 obtain ⟨c,w',rfl⟩:=List.exists_cons_of_ne_nil hne
 have h1:=h c mS
 have h2:=fun x hx=>h x (mM _ hx)
 match way,hw with
 | 0,_=>exact zrg h hwh ln r
 | 3,_=>exact zrg h hwh ln r
 | 1,_=>
  have e:wr (1:Nat) (c :: w') [wh]++r=92 :: c :: (w'.flatMap (esc true [92,32,9])++wh :: r):=by
   show ((c :: w').flatMap (esc true [92,32,9]) ++ [wh])++r=_
   rw [List.append_assoc];rfl
  rw [e];exact zp6 h1.1 h2 hwh ln r
 | 2,_=>
  have e0:wr (2:Nat) (c :: w') [wh]++r=((bif c==34 then [92] else [])++esc false [92,32,9] c)++(w'.flatMap (esc false [92,32,9])++wh :: r):=by
   show ((bif some c==some 34 then [92] else [])++((esc false [92,32,9] c++w'.flatMap (esc false [92,32,9])) ++ [wh]))++r=_
   rw [show (some c==some 34)=(c==34) from rfl]
   simp only [List.append_assoc];rfl
  rw [e0]
  rcases zhm false [92,32,9] c with e | ⟨e,q⟩
  ·induction q:c==34 with
   | true=>rw [eq_of_beq q] at e;exact absurd e (by decide)
   | false=>rw [e];exact zp6 h1.1 h2 hwh ln r
  ·rw [e]
   induction q2:c==34 with
   | true=>exact zp6 h1.1 h2 hwh ln r
   | false=>
    obtain ⟨q3,q4⟩:=zn8 h1 q
    show zdF ln (c :: (w'.flatMap (esc false [92,32,9])++wh :: r))=_
    rw [zdF,if_neg q3,if_neg (beq_eq_false_iff_ne.mp q2),if_neg q4,zkT hwh r ln w' _ h2]
    rfl
noncomputable def zr5(wh:Nat):Nat:=bif wh==10 then 1 else 0
theorem znt(wh ln:Nat):lnN wh ln=ln+zr5 wh:=by unfold zr5 lnN;induction wh==10 <;> rfl
def lnK:Nat→Nat
 | 0=>1
 | k+1=>lnN (zeI k) (lnN (zdj k) (lnK k))
noncomputable def zue:List Nat→List Nat
 | v :: a :: st=>(a+2^v) :: st
 | st=>st
def zbJ:List Nat→List Nat→List Nat
 | [],st=>st
 | c :: r,st=>zbJ r (if c=40 then 0 :: st else zue st)
theorem zcl{α β:Type}{f:α→β}:∀{l:List α},(∀x∈l,∀y∈l,f x=f y→x=y)→l.Nodup→(l.map f).Nodup
 | [],_,_=>List.nodup_nil
 | x :: l,h,nd=>by
  rw [List.nodup_cons] at nd
  rw [List.map_cons,List.nodup_cons]
  refine ⟨fun hm=>?_,zcl (fun a ha b hb=>h a (mM _ ha) b (mM _ hb)) nd.2⟩
  obtain ⟨y,hy,e⟩:=mP hm
  have:=h x mS y (mM _ hy) e.symm
  exact nd.1 (this▸hy)
abbrev ze4(l:List (List Nat)):List (List Nat):=zfS (zaa l)
theorem zdt(l:List (List Nat)):(ze4 l).Perm (zaa l):=List.mergeSort_perm _ _
theorem zfT{l m:List (List Nat)}(h:∀s,s∈l↔s∈m):ze4 l=ze4 m:=by
 have p:(zaa l).Perm (zaa m):=(List.perm_ext_iff_of_nodup (zaw l) (zaw m)).mpr fun s=>by rw [zak,zak,h s]
 exact zgC ((List.mergeSort_perm _ _).trans p) (List.pairwise_mergeSort zjS zjT _)
section
variable {hold:Nat→List Nat}
theorem zca(hold:Nat→List Nat)(k c:Nat):za5 hold (k+1) c = [40]++(ze4 ((hold c).map (za5 hold k))).flatten ++ [41]:=by
 show zqF hold (za5 hold k) c=_
 unfold zqF
 rw [zaA];rfl
theorem zgD(w:List Nat→Nat)(r st:List Nat):∀(S:List (List Nat)) (v:Nat),(∀s∈S,∀a st r,zbJ (s++r) (a :: st)=zbJ r ((a+w s) :: st))→zbJ (S.flatten++r) (v :: st)=zbJ r ((v+(S.map w).sum) :: st)
 | [],v,_=>by simp
 | s :: S,v,h=>by
  rw [List.flatten_cons,List.append_assoc,h s mS,zgD w r st S _ fun s hs=>h s (mM _ hs),List.map_cons,List.sum_cons,Nat.add_assoc]
theorem zcD(hm:∀c∈names5,∀m∈hold c,m∈names5):∀k,
  (∀c∈names5,c∉za1 hold k→∀a st r,zbJ (za5 hold k c++r) (a :: st)=zbJ r ((a+2^zgq hold k c) :: st))∧
  (∀c∈names5,∀d∈names5,c∉za1 hold k→d∉za1 hold k→(za5 hold k c=za5 hold k d↔zgq hold k c=zgq hold k d))
 | 0=>⟨fun c hc h=>absurd hc h,fun c hc d hd h=>absurd hc h⟩
 | k+1=>by
  obtain ⟨ih1,ih2⟩:=zcD hm k
  have dec:∀c∈names5,c∉za1 hold (k+1)→∀a st r,zbJ (za5 hold (k+1) c++r) (a :: st)=zbJ r ((a+2^zgq hold (k+1) c) :: st):=by
   intro c hc hE a st r
   have hoff:∀m∈hold c,m∈names5∧m∉za1 hold k:=fun m hmm=>⟨hm c hc m hmm,zc7 hc hE hmm⟩
   generalize hL:(hold c).map (za5 hold k)=L
   have hLm:∀s∈L,∃m∈hold c,s=za5 hold k m:=by
    intro s hs
    rw [←hL] at hs
    obtain ⟨m,h1,h2⟩:=mP hs
    exact ⟨m,h1,h2.symm⟩
   let w:List Nat→Nat:=fun s=>(zbJ s [0]).headD 0
   have hw:∀m∈hold c,w (za5 hold k m)=2^zgq hold k m:=by
    intro m hmm
    have:=ih1 m (hoff m hmm).1 (hoff m hmm).2 0 [] []
    rw [List.append_nil] at this
    show (zbJ _ _).headD 0=_
    rw [this]
    exact Nat.zero_add _
   have hmS:∀s,s∈ze4 L↔s∈L:=fun s=>by rw [(zdt L).mem_iff,zak]
   have hsum:((ze4 L).map w).sum=zgq hold (k+1) c:=by
    rw [((zdt L).map w).sum_nat]
    let u:List Nat→Nat:=fun s=>(w s).log2
    have hu:∀m∈hold c,u (za5 hold k m)=zgq hold k m:=fun m hmm=>by
     show (w (za5 hold k m)).log2=_
     rw [hw m hmm,Nat.log2_two_pow]
    have e1:(zaa L).map w=((zaa L).map u).map fun n=>2^n:=by
     rw [List.map_map]
     refine List.map_congr_left fun s hs=>?_
     obtain ⟨m,h1,rfl⟩:=hLm s ((zak _ L).mp hs)
     show w _=2^u _
     rw [hu m h1,hw m h1]
    have nd:((zaa L).map u).Nodup:=by
     refine zcl ?_ (zaw L)
     intro s hs t ht e
     obtain ⟨m,h1,rfl⟩:=hLm s ((zak _ L).mp hs)
     obtain ⟨m',h2,rfl⟩:=hLm t ((zak _ L).mp ht)
     rw [hu m h1,hu m' h2] at e
     exact (ih2 m (hoff m h1).1 m' (hoff m' h2).1 (hoff m h1).2 (hoff m' h2).2).mpr e
    rw [e1,zfQ nd]
    refine zgj fun n=>?_
    rw [List.mem_map,List.mem_map]
    constructor
    ·rintro ⟨s,hs,rfl⟩
     obtain ⟨m,h1,rfl⟩:=hLm s ((zak _ L).mp hs)
     exact ⟨m,h1,(hu m h1).symm⟩
    ·rintro ⟨m,h1,rfl⟩
     exact ⟨_,(zak _ L).mpr (by rw [←hL];exact mR ⟨m,h1,rfl⟩),hu m h1⟩
   rw [zca,hL]
   have e0: [40]++(ze4 L).flatten ++ [41]++r=40 :: ((ze4 L).flatten++41 :: r):=by simp
   rw [e0,zbJ,if_pos rfl,zgD w (41 :: r) (a :: st) (ze4 L) 0 ?_,zbJ,if_neg (by decide),zue,Nat.zero_add,hsum]
   intro s hs a st r
   obtain ⟨m,h1,rfl⟩:=hLm s ((hmS s).mp hs)
   rw [hw m h1]
   exact ih1 m (hoff m h1).1 (hoff m h1).2 a st r
  refine ⟨dec,fun c hc d hd hcE hdE=>⟨fun e=>?_,fun e=>?_⟩⟩
  ·have h1:=dec c hc hcE 0 [] []
   have h2:=dec d hd hdE 0 [] []
   rw [e,h2] at h1
   simp only [zbJ,Nat.zero_add,List.cons.injEq,and_true] at h1
   exact ((Nat.pow_right_inj (by decide)).mp h1).symm
  ·rw [zca,zca]
   congr 3
   refine zfT fun s=>?_
   have hc2:∀c∈names5,∀d∈names5,c∉za1 hold (k+1)→d∉za1 hold (k+1)→zgq hold (k+1) c=zgq hold (k+1) d→s∈(hold c).map (za5 hold k)→s∈(hold d).map (za5 hold k):=by
    intro c hc d hd hcE hdE e hs
    obtain ⟨m,h1,rfl⟩:=mP hs
    have h2:=(zkz e (zgq hold k m)).mp (mR ⟨m,h1,rfl⟩)
    obtain ⟨m',h3,h4⟩:=mP h2
    refine mR ⟨m',h3,?_⟩
    exact (ih2 m' (hm d hd m' h3) m (hm c hc m h1) (zc7 hd hdE h3) (zc7 hc hcE h1)).mpr h4
   exact ⟨hc2 c hc d hd hcE hdE e,hc2 d hd c hc hdE hcE e.symm⟩
theorem zlN(hm:∀c∈names5,∀m∈hold c,m∈names5){c d:Nat}(hc:c∈names5)(hd:d∈names5)(hcE:c∉za1 hold 5)(hdE:d∉za1 hold 5):(num hold c==num hold d)=(za5 hold 5 c==za5 hold 5 d):=by
 have:=(zcD hm 5).2 c hc d hd hcE hdE
 by_cases q:num hold c=num hold d
 ·rw [q,this.mpr q];simp
 ·have q2:=fun e=>q (this.mp e)
  rw [beq_eq_false_iff_ne.mpr q,beq_eq_false_iff_ne.mpr q2]
theorem zn0(hm:∀c∈names5,∀m∈hold c,m∈names5){c d:Nat}(hc:c∈names5)(hd:d∈names5)(hcE:c∉za1 hold 5)(hdE:d∉za1 hold 5):(num hold c/2^num hold d%2==1)=((hold c).map (za5 hold 5)).contains (za5 hold 5 d):=by
 have hmE:∀m∈hold c,m∉za1 hold 5:=fun m h1 h2=>hcE ((zh0 hc).mpr ⟨m,h1,h2⟩)
 have key:num hold d∈(hold c).map (num hold)↔za5 hold 5 d∈(hold c).map (za5 hold 5):=by
  rw [List.mem_map,List.mem_map]
  constructor
  ·rintro ⟨m,h1,h2⟩
   exact ⟨m,h1,((zcD hm 5).2 m (hm c hc m h1) d hd (hmE m h1) hdE).mpr h2⟩
  ·rintro ⟨m,h1,h2⟩
   exact ⟨m,h1,((zcD hm 5).2 m (hm c hc m h1) d hd (hmE m h1) hdE).mp h2⟩
 rw [zjD hm hc hcE,zbU]
 by_cases q:num hold d∈(hold c).map (num hold)
 ·rw [if_pos q]
  have:=key.mp q
  simp only [List.contains_eq_mem,this];rfl
 ·rw [if_neg q]
  have:=fun h=>q (key.mpr h)
  rw [List.contains_eq_mem,decide_eq_false this];rfl
end
noncomputable def grp(w:Nat)(l:List Nat)(G:Nat):List (List Nat):=(List.range G).map fun j=>(l.drop (j*w)).take w
theorem zhe(w:Nat)(l:List Nat)(G:Nat):grp w l (G+1)=l.take w :: grp w (l.drop w) G:=by
 unfold grp
 rw [List.range_succ_eq_map,List.map_cons,List.map_map]
 congr 1
 ·simp
 ·refine List.map_congr_left fun j X=>?_
  show (l.drop ((j+1)*w)).take w=((l.drop w).drop (j*w)).take w
  rw [List.drop_drop]
  congr 2
  rw [Nat.succ_mul,Nat.add_comm]
theorem zf1(w:Nat)(l:List Nat):nvl l=nvl (l.take w)+2^w*nvl (l.drop w):=by
 have h:=zcP (l.take w) (l.drop w)
 rw [List.take_append_drop] at h
 rcases Nat.lt_or_ge l.length w with q | q
 ·rw [List.drop_of_length_le (lO q)] at h⊢
  simpa [nvl] using h
 ·rw [List.length_take,Nat.min_eq_left q] at h
  exact h
theorem zcO{w:Nat}{l:List Nat}(h:∀d∈l,d≤1):nvl (l.take w)<2^w:=by
 have:=zjC (l.take w) fun d hd=>h d (List.mem_of_mem_take hd)
 refine lL this (pR (by decide) ?_)
 rw [List.length_take];exact Nat.min_le_left ..
theorem zkr(w:Nat):∀(G:Nat) (l:List Nat),(∀d∈l,d≤1)→dig w (nvl l) G=(grp w l G).map fun s=>(nvl s:Int)
 | 0,l,_=>rfl
 | G+1,l,h=>by
  have h1:=zcO (w:=w) h
  rw [zhe,List.map_cons,←zkr w G (l.drop w) fun d hd=>h d (List.mem_of_mem_drop hd),dig]
  have h2:=zf1 w l
  have e1:nvl l%2^w=nvl (l.take w):=by rw [h2,Nat.add_mul_mod_self_left,Nat.mod_eq_of_lt h1]
  have e2:nvl l/2^w=nvl (l.drop w):=by
   rw [h2,Nat.add_mul_div_left _ _ (Nat.pow_pos (by decide)),Nat.div_eq_of_lt h1,Nat.zero_add]
  rw [e1,e2]
theorem zho(w:Nat):∀(G:Nat) (l:List Nat),l.length≤w*G→zbr w ((grp w l G).map fun s=>(nvl s:Int))=(nvl l:Int)
 | 0,l,h=>by
  have:l = []:=List.length_eq_zero_iff.mp (by lia)
  subst this;rfl
 | G+1,l,h=>by
  rw [zhe,List.map_cons,zbr,zho w G (l.drop w) (by rw [List.length_drop];rw [Nat.mul_succ] at h;lia)]
  have:=zf1 w l
  rw [this];push_cast;rfl
theorem zog(l:List Nat):∀s:Nat,(l.mapIdx fun (k:Nat) (y:Nat)=>((y:Int)*2^(k+s))).sum=(2^s*nvl l:Nat):=by
 induction l with
 | nil=>intro s;simp [nvl]
 | cons x l ih=>
  intro s
  rw [List.mapIdx_cons,List.sum_cons]
  have:=ih (s+1)
  have e:(fun (k:Nat) (y:Nat)=>((y:Int)*2^(k+1+s)))=fun (k:Nat) (y:Nat)=>((y:Int)*2^(k+(s+1))):=by
   funext k y;congr 2;exact Nat.add_right_comm k 1 s
  rw [e,this,nvl]
  push_cast
  rw [Nat.zero_add,Int.pow_succ,Int.mul_add,Int.mul_comm (x:Int),Int.mul_assoc]
theorem zlr(l:List Nat):(l.mapIdx fun (k:Nat) (y:Nat)=>((y:Int)*2^k)).sum=(nvl l:Int):=by
 have:=zog l 0
 simpa using this
theorem zr7{l:List Nat}{m:Nat}(h:mxL l=m+1):m∈l:=by
 refine Decidable.byContradiction fun q=>?_
 have:mxL l≤m:=zdC fun x hx=>by
  have h1:=zcn hx
  have:x≠m:=fun e=>q (e▸hx)
  exact Nat.lt_of_le_of_ne (Nat.le_of_lt_succ (lL h1 (Nat.le_of_eq h))) this
 exact absurd (lT (Nat.le_of_eq h.symm) this) (Nat.not_succ_le_self m)
theorem zkS(l:List Nat):zaC (zaN l)=mxL l:=by
 have h1:zaC (zaN l)≤mxL l:=zeC (zhs fun x hx=>zcn hx)
 cases q:mxL l with
 | zero=>exact Nat.le_zero.mp (q▸h1)
 | succ m=>
  have hm:=zr7 q
  have hb:=zbU l m
  rw [if_pos hm] at hb
  have h2:2^m≤zaN l:=by
   refine Decidable.byContradiction fun q=>?_
   rw [Nat.div_eq_of_lt (Nat.lt_of_not_le q)] at hb
   simp at hb
  have h3:=zdf (zaN l)
  have h4:m<zaC (zaN l):=by
   refine Decidable.byContradiction fun q=>?_
   have:2^zaC (zaN l)≤2^m:=pR (by decide) (Nat.le_of_not_lt q)
   exact Nat.lt_irrefl _ (lL h3 (lT this h2))
  exact Nat.le_antisymm (by rw [←q];exact h1) h4
theorem zeN(s:List Nat)(a:Nat):Builtin.Str.subAt (strOf s) (strOf [10]) a=true↔s[a]? = some 10:=by
 unfold Builtin.Str.subAt strOf
 rw [beq_iff_eq,←Array.toList_inj]
 simp only [Array.toList_extract,List.extract_eq_take_drop,Str.length,List.size_toArray,List.length_cons,List.length_nil]
 have e:a+(0+1)-a=1:=by lia
 rw [e]
 induction h:s[a]? with
 | none=>
  rw [List.drop_of_length_le (List.getElem?_eq_none_iff.mp h)];simp
 | some x=>
  have hl:=(gE h).1
  rw [List.drop_eq_getElem_cons hl,(List.getElem?_eq_some_iff.mp h).2];simp
theorem zcN(s:List Nat):∀(m a:Nat) (st:Array Nat×Nat),a+m=s.length+1→st.2≤a→st.1.size+m≤s.length+1→
  (forIn (m:=Id) (List.range' a m) st (StrLaws.occBody (strOf s) (strOf [10]) s.length (s.length+1))).run.fst.size=st.1.size+(s.drop a).count 10
 | 0,a,st,h1,h2,h3=>by
  rw [List.drop_of_length_le (Nat.le_of_succ_le (Nat.le_of_eq h1.symm:s.length+1≤a))];rfl
 | m+1,a,st,h1,h2,h3=>by
  rw [List.range'_succ,List.forIn_cons]
  unfold StrLaws.occBody
  have l1:(strOf [10]).length=1:=rfl
  have h4:a+1+m=s.length+1:=(Nat.succ_add_eq_add_succ a m).trans h1
  by_cases q:s[a]? = some 10
  ·have hl:=(gE q).1
   rw [if_pos ⟨⟨⟨by lia,h2⟩,by rw [l1];lia⟩,(zeN s a).mpr q⟩]
   have:=zcN s m (a+1) (st.1.push a,a+(strOf [10]).length) h4 (by rw [l1];exact Nat.le_refl _) (by simp only [Array.size_push];exact Nat.le_trans (Nat.le_of_eq (Nat.succ_add_eq_add_succ _ m)) h3)
   refine Eq.trans this ?_
   rw [List.drop_eq_getElem_cons hl,(gE q).2,List.count_cons]
   simp only [Array.size_push,beq_self_eq_true,if_true];lia
  ·rw [if_neg (fun h=>q ((zeN s a).mp h.2))]
   have:=zcN s m (a+1) st h4 (Nat.le_succ_of_le h2) (Nat.le_of_succ_le h3)
   refine Eq.trans this ?_
   congr 1
   induction h:s[a]? with
   | none=>
    have hl:=List.getElem?_eq_none_iff.mp h
    rw [List.drop_of_length_le (Nat.le_succ_of_le hl),List.drop_of_length_le hl]
   | some x=>
    obtain ⟨hl,hx⟩:=gE h
    rw [h] at q
    rw [List.drop_eq_getElem_cons hl,hx,List.count_cons]
    have:(x==10)=false:=beq_eq_false_iff_ne.mpr fun e=>q (by rw [e])
    rw [this];simp
theorem zkx(s:List Nat):zdc s [10]=s.count 10:=by
 unfold zdc
 have el:(strOf s).length=s.length:=by simp [strOf,Str.length]
 rw [StrLaws.occ_eq,Array.length_toList]
 have:=zcN s (s.length+1) 0 (#[],0) (by lia) (by lia) (by simp)
 simpa using this
theorem zd7(all:Bool)(set:List Nat):∀w:List Nat,(∀x∈w,x≠10)→(w.flatMap (esc all set)).count 10=0
 | [],_=>rfl
 | c :: w,h=>by
  have h1:=h c mS
  rw [List.flatMap_cons,List.count_append,zd7 all set w fun x hx=>h x (mM _ hx)]
  rcases zhm all set c with e | ⟨e,_⟩ <;> rw [e] <;> simp [List.count_cons,h1]
theorem zgt{way:Int}{w:List Nat}{wh:Nat}(h:∀x∈w,x≠10):(wr way w [wh]).count 10=zr5 wh:=by
 have hs: [wh].count 10=zr5 wh:=by
  unfold zr5
  rw [List.count_cons]
  induction wh==10 <;> rfl
 unfold wr wrQ wrB
 induction q03 way with
 | true=>simp only [cond_true,List.count_append,zd7 _ _ w h,hs];rfl
 | false=>induction way==2&&w.head? == some 34 <;> simp only [cond_true,cond_false,List.count_append,zd7 _ _ w h,hs,Nat.zero_add] <;> exact Nat.zero_add _
theorem zdq(cs:List Nat):∀k,k≤cs.length→(zaf (cs.take k)).count 10+1=lnK k
 | 0,_=>rfl
 | k+1,h=>by
  have hk:cs[k]? = some cs[k]:=List.getElem?_eq_getElem (by lia)
  have ih:=zdq cs k (by lia)
  rw [zbW hk,List.count_append,List.count_append,zgt fun x hx=>(zbE _ x hx).2.1,zgt fun x hx=>(zcm _ x hx).2.1]
  show _=lnN (zeI k) (lnN (zdj k) (lnK k))
  rw [znt,znt];lia
noncomputable def tailT:List Nat:=[34,10,34,34,34,122,92,10,32,34,122,92]
theorem zkY{cs:List Nat}(h:cs.length=7):zdc (zaf cs++tailT) [10]=6:=by
 rw [zkx,List.count_append]
 have:=zdq cs 7 (by lia)
 rw [List.take_of_length_le (by lia)] at this
 have e:lnK 7=5:=rfl
 have e2:tailT.count 10=2:=rfl
 lia
noncomputable abbrev Hds:=List (List Nat×List Nat)
def ziA(k c:Nat):List Nat:=bif k%2==1 then za8 [nmN c] else [nmN c]
def zfI(cs:List Nat):Hds:=cs.mapIdx fun k c=>(ziA k c,memN c)
theorem ziN{cs:List Nat}{k c:Nat}(h:cs[k]? = some c):zfI (cs.take (k+1))=zfI (cs.take k) ++ [(ziA k c,memN c)]:=by
 have e:(cs.take k).length=k:=by rw [List.length_take];exact Nat.min_eq_left (lO (gE h).1)
 rw [List.take_succ,h]
 unfold zfI
 rw [Option.toList,List.mapIdx_concat,e]
theorem ztf(c:Nat):nmN c∈names5:=(by decide:∀x∈nameL,x∈names5) _ (zgQ c)
theorem zfP(k c:Nat):okN (ziA k c)∧zag (ziA k c) = [nmN c]:=by
 have:=zea _ (ztf c)
 unfold ziA
 induction k%2==1 with
 | true=>rw [cond_true,this.2.1];exact ⟨this.2.2.1,this.2.2.2.2.1⟩
 | false=>exact ⟨this.1,this.2.2.2.1⟩
theorem zjB{cs:List Nat}(hl:cs.length≤100):okH (zfI cs):=by
 refine ⟨fun p hp=>?_,by unfold zfI;rw [List.length_mapIdx];exact lE hl (by decide)⟩
 obtain ⟨i,hi,e⟩:=List.mem_mapIdx.mp hp
 rw [←e];exact (zfP i _).1.2.1
def zaO(cs:List Nat)(tail:List Nat)(k:Nat):List Nat:=((cs.mapIdx zfL).drop k).flatten++tail
theorem zbZ{cs tail:List Nat}{k c:Nat}(h:cs[k]? = some c):zaO cs tail k=wr (ziz c:Nat) (za9 c) [zdj k]++(wr (ziy c:Nat) (memN c) [zeI k]++zaO cs tail (k+1)):=by
 have hkl:k<(cs.mapIdx zfL).length:=by rw [List.length_mapIdx];exact (gE h).1
 unfold zaO
 rw [List.drop_eq_getElem_cons hkl,List.flatten_cons,List.getElem_mapIdx,(gE h).2]
 simp only [zfL,List.append_assoc]
theorem zo8(k:Nat):zdj k∈wsL:=zap (p:=fun x=>x∈wsL) 4 _ rfl rfl (by decide)
theorem zo7(k:Nat):zeI k∈wsL:=zap (p:=fun x=>x∈wsL) 4 _ rfl rfl (by decide)
theorem zr9(c:Nat):memN c≠[]:=fun e=>by have:=zbx c;rw [e] at this;cases this
theorem lexA{cs tail:List Nat}{k c:Nat}(h:cs[k]? = some c):zdF (lnK k) (zaO cs tail k)=(za9 c,wr (ziy c:Nat) (memN c) [zeI k]++zaO cs tail (k+1),lnN (zdj k) (lnK k)):=by
 rw [zbZ h]
 exact znw (mT _ (by decide)) (zbF c).1 (fun x hx=>⟨(zbE c x hx).2.1,(zbE c x hx).2.2.1⟩) (zo8 k) _ _
theorem lexB{cs tail:List Nat}{k c:Nat}:zdF (lnN (zdj k) (lnK k)) (wr (ziy c:Nat) (memN c) [zeI k]++zaO cs tail (k+1))=(memN c,zaO cs tail (k+1),lnK (k+1)):=
 znw (mT _ (by decide)) (zr9 c) (fun x hx=>⟨(zcm c x hx).2.1,(zcm c x hx).2.2.1⟩) (zo7 k) _ _
def zaV(cs:List Nat)(c:Nat):List Nat:=cs.filter fun p=>nmN p==c
def za0(cs:List Nat)(c:Nat):List Nat:=((zaV cs c).map zab).flatten
theorem zh1(c:Nat):∀m∈zab c,m∈names5:=(by decide:∀k,k<12→∀m∈meanL.getD k [],m∈names5) _ (zej c)
theorem zaE(cs:List Nat)(c:Nat):∀m∈za0 cs c,m∈names5:=by
 intro m hm
 obtain ⟨l,hl,h⟩:=List.mem_flatten.mp hm
 obtain ⟨p,X,rfl⟩:=mP hl
 exact zh1 _ m h
theorem zbk{cs:List Nat}(h7:cs.length=7)(c:Nat):(za0 cs c).length≤21:=by
 unfold za0
 rw [List.length_flatten,List.map_map]
 exact lT (zbX (zaV cs c) (List.length ∘ zab) 3 fun p X=>zaW p) (Nat.mul_le_mul_right 3 (h7▸List.length_filter_le ..))
structure BookOk(hold:Nat→List Nat)(bs:Hds)(W:List Nat):Prop where
 len:bs.length+W.length=5
 names:∀p∈bs,okN p.1
 gone:∀c∈names5,c∈W→bs.find? (zaD [c])=none
 done:∀c∈names5,c∉W→c∉za1 hold 5∧∃p,bs.find? (zaD [c])=some p∧p.2=zaP (num hold c)
theorem BookOk.okH{hold:Nat→List Nat}{bs:Hds}{W:List Nat}(h:BookOk hold bs W):okH bs:=⟨fun p hp=>(h.names p hp).2.1,lE (Nat.le_of_add_right_le (Nat.le_of_eq h.len)) (by decide)⟩
theorem zkP{hold:Nat→List Nat}{bs:Hds}{W W':List Nat}(hm:∀x,x∈W↔x∈W')(hl:W.length=W'.length)(h:BookOk hold bs W):BookOk hold bs W':=
 ⟨by rw [←hl];exact h.len,h.names,fun c hc hw=>h.gone c hc ((hm c).mpr hw),fun c hc hw=>h.done c hc fun q=>hw ((hm c).mp q)⟩
theorem zei{x:Nat}{s v:List Nat}(hx:x∈names5):zaD [x] (s,v)=(zag s == [x]):=by
 unfold zaD
 rw [(zea x hx).2.2.2.1]
theorem zjR{c:Nat}(hc:c∈names5):zaD [c-32]=zaD [c]:=by
 have:=zea c hc
 funext p
 unfold zaD
 rw [this.2.2.2.1,this.2.2.2.2.1]
theorem zkO{hold:Nat→List Nat}{bs:Hds}{W:List Nat}{c:Nat}(hc5:c∈names5)(hcW:c∉W)(hd:∀m∈hold c,m∉c :: W)(hn:∀m∈hold c,m∈names5)(h:BookOk hold bs (c :: W)):BookOk hold (bs ++ [([c-32],zaP (num hold c))]) W:=by
 have hp:=zea c hc5
 have hE:c∉za1 hold 5:=fun hq=>by
  obtain ⟨m,h1,h2⟩:=(zh0 hc5).mp hq
  exact (h.done m (hn m h1) (hd m h1)).1 h2
 refine ⟨?_,?_,?_,?_⟩
 ·have:=h.len
  rw [List.length_append,List.length_singleton];rw [List.length_cons] at this;lia
 ·intro q hq
  rcases List.mem_append.mp hq with hq | hq
  ·exact h.names q hq
  ·rw [List.mem_singleton.mp hq];exact hp.2.2.1
 ·intro x hx hw
  have hf:zaD [x] ([c-32],zaP (num hold c))=false:=by
   rw [zei hx,hp.2.2.2.2.1]
   exact beq_eq_false_iff_ne.mpr fun e=>hcW ((List.cons.inj e).1▸hw)
  rw [List.find?_append,h.gone x hx (mM _ hw),List.find?_cons_of_neg (by rw [hf];exact Bool.false_ne_true)];rfl
 ·intro x hx hw
  by_cases q:x=c
  ·subst q
   refine ⟨hE,([x-32],zaP (num hold x)),?_,rfl⟩
   have hf:zaD [x] ([x-32],zaP (num hold x))=true:=by
    rw [zei hx,hp.2.2.2.2.1];exact beq_self_eq_true _
   rw [List.find?_append,h.gone x hx mS,List.find?_cons_of_pos hf];rfl
  ·obtain ⟨h1,p,h2,h3⟩:=h.done x hx (fun hm=>(cP hm).elim q hw)
   exact ⟨h1,p,by rw [List.find?_append,h2];rfl,h3⟩
theorem zih(c:Nat):∀(l:List Nat) (f:Nat→Nat→List Nat),(∀i x,zag (f i x) = [nmN x])→
  ((l.mapIdx fun i x=>(f i x,memN x)).filter fun q=>zag q.1 == [c]).map (·.2)=(zaV l c).map memN:=by
 intro l
 induction l with
 | nil=>intro f _;rfl
 | cons x r ih=>
  intro f h
  have:=ih (fun i=>f (i+1)) fun i x=>h (i+1) x
  unfold zaV at this⊢
  rw [List.mapIdx_cons,List.filter_cons,List.filter_cons]
  have e:(zag (f 0 x) == [c])=(nmN x==c):=by rw [h 0 x];simp
  simp only [e]
  induction nmN x==c with
  | true=>exact congrArg (memN x :: ·) this
  | false=>exact this
theorem ziM{cs:List Nat}{c:Nat}(hc:c∈names5):((zfI cs).filter (zaD [c])).map (·.2)=(zaV cs c).map memN:=by
 have:zaD [c]=fun q:List Nat×List Nat=>zag q.1 == [c]:=by
  funext p;exact zei (s:=p.1) (v:=p.2) hc
 rw [this]
 exact zih c cs ziA fun i x=>(zfP i x).2
theorem zfb{hold:Nat→List Nat}{bs:Hds}{W:List Nat}(h:BookOk hold bs W){m:Nat}(hm:m∈names5)(hw:m∈W):zdK bs [m] = .none:=by
 unfold zdK;rw [h.gone m hm hw]
theorem zd4{hold:Nat→List Nat}{bs:Hds}{W:List Nat}(h:BookOk hold bs W){m:Nat}(hm:m∈names5)(hw:m∉W):zdK bs [m] = .str (zaP (num hold m)):=by
 obtain ⟨X,p,e,e2⟩:=h.done m hm hw
 unfold zdK;rw [e,←e2]
def zmx(hold:Nat→List Nat)(W:List Nat)(m:Nat):Option (List Nat):=bif W.contains m then none else some (zaP (num hold m))
theorem zpm(hold:Nat→List Nat)(W l:List Nat):(l.map (zmx hold W)).any Option.isNone=l.any fun m=>W.contains m:=by
 rw [List.any_map]
 congr 1
 funext m
 show (zmx hold W m).isNone=_
 unfold zmx
 induction W.contains m <;> rfl
noncomputable def pos(T r:List Nat):Nat:=T.length-r.length
theorem ze9{T a r:List Nat}(e:T=a++r):T.drop (pos T r)=r∧pos T r≤T.length:=by
 subst e
 unfold pos
 rw [List.length_append,Nat.add_sub_cancel]
 exact ⟨by rw [List.drop_left],Nat.le_add_right _ _⟩
theorem zfN{cs tail:List Nat}:∀k,k≤cs.length→zaf cs++tail=zaf (cs.take k)++zaO cs tail k
 | 0,_=>rfl
 | k+1,h=>by
  have e:cs[k]? = some cs[k]:=List.getElem?_eq_getElem h
  rw [zfN k (lO h),zbZ e,zbW e]
  simp only [List.append_assoc]
def zt6(cs tail:List Nat)(k c:Nat):List Nat:=wr (ziy c:Nat) (memN c) [zeI k]++zaO cs tail (k+1)
theorem zlp{cs tail:List Nat}{k c:Nat}(e:cs[k]? = some c):zaf cs++tail=(zaf (cs.take k)++wr (ziz c:Nat) (za9 c) [zdj k])++zt6 cs tail k c:=by
 rw [zfN k (lO (gE e).1),zbZ e,List.append_assoc];rfl
def Hp.okB(g:Hp):Bool:=(List.range g.nx).all fun k=>!(g.at_ k).live || (g.at_ k).bf g.nx
theorem Wk.tob{h g:Hp}(L:Nat)(l:List (Str×AV))(b:g.okB=true)(hf:autoParam ((h.at_ L).frame?.isSome=true) Mine.kr1)(e1:autoParam ((l.map fun p=>((h.at_ L).frame?.getD []).lookup p.1)=l.map fun p=>some p.2) Mine.kr1)(e2:autoParam ((List.range g.nx).map (h.set L (.frame l)).at_=(List.range g.nx).map g.at_) Mine.kr1)(b1:autoParam (Nat.ble g.nx h.nx=true) Mine.kr1):Wk h g:= .to L l hf e1 e2 (an b1 b)
noncomputable def nFr(ord:List Nat)(l:List (Str×AV)):List (Str×AV):=("lexer", .ref 1) :: ("pairs", .ref 9) :: ("table", .ref 15) :: l
def O31(T cs:List Nat)(p ln:Nat)(pb:List AV)(fr:List (Str×AV))(ne he:Option AV)(tb bs:Hds):List AO:=
 zaZ T p ln pb ++ [.list false (cs.map pV), .frame fr, .cell (some (.ref 18)), .cell ne, .cell he, .dict true [(hk, .ref 16)], .inst 345 14, .list false (tb.map pA), .dict true [(hk, .ref 19)], .inst 345 17, .list false (bs.map pA)]
noncomputable def nmC(k:Nat)(s:List Nat):Option AV:=Nat.casesOn (motive:=fun X=>Option AV) k none fun X=>some (.str s)
def zse(T cs tail ord:List Nat)(ne:List Nat)(k:Nat):Hp:= .of (O31 T cs (pos T (zaO cs tail k)) (lnK k) [] (nFr ord [("order", .str ord)]) (nmC k ne) none (zfI (cs.take k)) [] ++ [.range 0 7 1, .riter (0+(k:Int)*1) (((7:Nat):Int)-k) 1])
def zs8(T cs tail:List Nat)(pb:List AV)(fr:List (Str×AV))(ne he:Option AV)(bs:Hds):List AO:=O31 T cs (pos T (zaO cs tail 7)) (lnK 7) pb fr ne he (zfI (cs.take 7)) bs
def zuW(T cs tail ord:List Nat)(i:List Nat×List AV)(j:Nat):Hp:= .of (zs8 T cs tail i.2 (nFr ord []) (some (.str i.1)) none [] ++ [.range 0 7 1, .other, .siter ord j])
structure NS where
 q:List Nat
 bs:Hds
 wt:Int
 ne:List Nat
 he:Option (List SV)
def zu6(T cs tail ord:List Nat)(i:NS)(t:Nat):Hp:= .of (zs8 T cs tail (i.q.map oneS) (nFr ord [("waiting", .int i.wt)]) (some (.str i.ne)) (i.he.map .lst) i.bs ++ [.range 0 7 1, .other, .other, .range 0 5 1, .riter (0+(t:Int)*1) (((5:Nat):Int)-t) 1])
theorem zsd{T cs tail ord:List Nat}{i:NS}{t:Nat}:(zu6 T cs tail ord i t).okB=true:=by
 obtain ⟨q,bs,wt,ne,he⟩:=i
 induction he <;> kernel_rfl
structure R31t(hold:Nat→List Nat)(ord:List Nat)(i:NS)(t:Nat):Prop where
 sub:i.q.Sublist ord
 left:∀c∈i.q,c∈za1 hold t
 bk:BookOk hold i.bs i.q
 wt:i.wt=i.q.length
theorem zow(N:Nat):Builtin.Range.rangeSize 0 N 1=(N:Int):=by rw [PyProof.Rows.rangeSize_nat];lia
noncomputable def zg8(n:Int)(m k:Nat):Int:=Nat.casesOn (motive:=fun X=>Int) k (Builtin.Range.rangeSize 0 n 1) fun k=>(m:Int)-(k+1:Nat)
theorem zm5{n:Int}{m:Nat}(hn:n=m)(k:Nat):zg8 n m k=(m:Int)-k:=by
 subst hn
 induction k using Nat.casesOn with
 | zero=>exact (zow m).trans (Int.sub_zero _).symm
 | succ k=>rfl
def zm6(m k:Nat):Int:=zg8 m m k
theorem Sm.loopS{T:Tabs}{P:PM T}{w:Wt}{ι:Type}(B:Tbl T P.c)(n m:Nat)(H:ι→Nat→Hp)(R:ι→Nat→Prop)(i0:ι)(wk:Wk w.hp (H i0 0))(h0:R i0 0){N:Int}(hn:N=(m:Nat))(hl:∀i k,R i k→Nat.blt w.git (H i k).nx=true∧(H i k).at_ w.git = .riter (0+(k:Int)*1) (zg8 N m k) 1)
  (hb:∀i (k:Nat),k<m→R i k→Sm P (w.tw P (On1 (Iv H R) n k) (.int k) ((H i k).set w.git (.riter (0+((k+1:Nat):Int)*1) (zg8 N m (k+1)) 1)))) (he:∀i,R i m→Sm P (w.kh ((H i m).set w.git .other))) (g0:autoParam ((w.isG,(H i0 0).nx,w.hp.nx)=(true,n,n)) Mine.kr1):Sm P w:=
 loopN B n m H R i0 wk h0 (fun i k r=>zm5 hn k▸hl i k r) hb he g0
structure NU where
 W:List Nat
 S:List Nat
 bs:Hds
 st:Int
 ne:List Nat
 he:Option (List SV)
def zli(T cs tail ord:List Nat)(t m:Nat)(i:NU)(j:Nat):Hp:= .of (zs8 T cs tail (i.W.map oneS) (nFr ord [("stay", .int i.st)]) (some (.str i.ne)) (i.he.map .lst) i.bs ++ [.range 0 7 1, .other, .other, .range 0 5 1, .riter (0+((t+1:Nat):Int)*1) (((5:Nat):Int)-(t+1:Nat)) 1, .range 0 m 1, .riter (0+(j:Int)*1) (zm6 m j) 1])
theorem zsc{T cs tail ord:List Nat}{i:NU}{t m j:Nat}:(zli T cs tail ord t m i j).okB=true:=by
 obtain ⟨W,S,bs,st,ne,he⟩:=i
 induction he <;> kernel_rfl
structure R31u(hold:Nat→List Nat)(q:List Nat)(t:Nat)(i:NU)(j:Nat):Prop where
 W:i.W=q.drop j++i.S
 sub:i.S.Sublist (q.take j)
 left:∀c∈i.S,c∈za1 hold (t+1)
 bk:BookOk hold i.bs i.W
 st:i.st=i.S.length
structure TU where
 T:List Nat
 cs:List Nat
 tail:List Nat
 ord:List Nat
 t:Nat
 m:Nat
 j:Nat
 W:List Nat
 st:Int
 c:Nat
 he:Option (List SV)
 bs:Hds
def Lw(cs:List Nat)(c:Nat):List (List Nat):=(zaV cs c).map memN
def TU.B(x:TU)(fr:List (Str×AV)):List AO:=zs8 x.T x.cs x.tail (x.W.map oneS) (nFr x.ord (("stay", .int x.st) :: fr)) (some (.str [x.c])) (x.he.map .lst) x.bs ++ [.range 0 7 1, .other, .other, .range 0 5 1, .riter (0+((x.t+1:Nat):Int)*1) (((5:Nat):Int)-(x.t+1:Nat)) 1, .range 0 x.m 1, .riter (0+((x.j+1:Nat):Int)*1) (zm6 x.m (x.j+1)) 1]
def pG(c p:Nat):Option AV:=bif [nmN p] == [c] then some (.str (memN p)) else none
theorem zjy(a b:Nat):([a] == [b])=(a==b):=by simp
theorem zqY(cs:List Nat)(c:Nat):cs.filterMap (pG c)=(Lw cs c).map .str:=by
 unfold pG Lw zaV
 simp only [zjy]
 rw [fmB (fun p=>nmN p==c) (fun p=>AV.str (memN p)),List.map_map];rfl
noncomputable def zsD(x:TU)(acc:List AV)(k:Nat):Hp:= .of (x.B [("texts", .lst ((Lw x.cs x.c).map .str))] ++ [.liter (.ref 9) k, .list false acc, .frame []])
theorem zla{x:TU}{acc:List AV}{k:Nat}:(zsD x acc k).okB=true:=by
 obtain ⟨T,cs,tail,ord,t,m,j,W,st,c,he,bs⟩:=x
 induction he <;> kernel_rfl
def zP(p:Nat):List Nat:=zao ([za7 p]++zab p) (some 1) none none
noncomputable def zu8(x:TU)(acc:List AV)(k:Nat):Hp:= .of (x.B [] ++ [.other, .list false ((Lw x.cs x.c).map .str), .other, .liter (.lst ((Lw x.cs x.c).map .str)) k, .list false acc, .frame []])
theorem zo4{x:TU}{acc:List AV}{k:Nat}:(zu8 x acc k).okB=true:=by
 obtain ⟨T,cs,tail,ord,t,m,j,W,st,c,he,bs⟩:=x
 induction he <;> kernel_rfl
noncomputable def zsF(x:TU)(acc:List AV)(k p i:Nat):Hp:= .of (x.B [] ++ [.other, .list false ((Lw x.cs x.c).map .str), .other, .liter (.lst ((Lw x.cs x.c).map .str)) (k+1), .list false acc, .frame [], .siter (zP p) i])
theorem zlc{x:TU}{acc:List AV}{k p i:Nat}:(zsF x acc k p i).okB=true:=by
 obtain ⟨T,cs,tail,ord,t,m,j,W,st,c,he,bs⟩:=x
 induction he <;> kernel_rfl
noncomputable def bO(bs:Hds):List AO:=[.list true [.ref 11], .inst 345 12, .dict true [(hk, .ref 13)], .list false (bs.map pA)]
section
variable {P:PM T3}
theorem zfH{T cs tail ord:List Nat}{ne:List Nat}{k c:Nat}(e:cs[k]? = some c):zse T cs tail ord ne (k+1) = .of (O31 T cs (pos T (zaO cs tail (k+1))) (lnK (k+1)) [] (nFr ord [("order", .str ord)]) (some (.str ne)) none (zfI (cs.take k) ++ [(ziA k c,memN c)]) [] ++ [.range 0 7 1, .riter (0+((k+1:Nat):Int)*1) (((7:Nat):Int)-(k+1:Nat)) 1]):=by
 unfold zse;rw [ziN e];rfl
theorem zhE{T cs:List Nat}{p ln:Nat}{pb:List AV}{fr:List (Str×AV)}{ne he:Option AV}{tb bs:Hds}{x:List Nat×List Nat}:O31 T cs p ln pb fr ne he (tb ++ [x]) bs=zaZ T p ln pb ++ [.list false (cs.map pV), .frame fr, .cell (some (.ref 18)), .cell ne, .cell he, .dict true [(hk, .ref 16)], .inst 345 14, .list false (tb.map pA ++ [pA x]), .dict true [(hk, .ref 19)], .inst 345 17, .list false (bs.map pA)]:=by
 unfold O31;rw [List.map_append];rfl
def eW(P:PM T3)(d:FDat×List AV)(args:List AV)(kw:List (Str×AV))(os:List AO)(K:AV→Hp→Prop):Wt:=zkQ P d.1 [] d.2 args kw (Hp.of os) fun v h=> .en v h (EndK os.length K)
theorem zts{a:Nat}{d:FDat×List AV}{args:List AV}{kw:List (Str×AV)}{os:List AO}{K:AV→Hp→Prop}(B:Tbl T3 P.c)(H:Sm P (eW P d args kw os K))(e:autoParam (T3.defs a=some d) Mine.kr1)(ho:autoParam (znr d.1=true) Mine.kr1):za6 P.up (.glob a) args kw (Hp.of os) K:=zeA (zde B e ho H.sem)
theorem Sm.endK{w:Wt}(n:Nat)(K:AV→Hp→Prop)(r:AV)(os:List AO)(σ:List Nat)(H:K r (Hp.of os))(q:autoParam (w.lq=EndK n K) Mine.kr1)(e:autoParam (σ.map w.hp.at_=os.map (AO.ren (gl σ))) Mine.kr1)(b1:autoParam ((os.all (AO.bd os.length)&&os.all (fun o=>(o.ren id).live)&&nd σ&&σ.all fun k=>Nat.blt k w.hp.nx)=true) Mine.kr1)
  (b:autoParam (((List.range n).all (fun j=>Nat.beq (gl σ j) j)&&Nat.ble n os.length&&r.bd os.length)=true) Mine.kr1) (ev:autoParam (w.vf=r.ren (gl σ)) Mine.kr1):Sm P w:=⟨Wt.fin0 (q▸ .mk σ os r e b1 b ev H)⟩
theorem lvB(B:Tbl T3 P.c)(j:Nat):Tbl T3 (P.lv j).c:=P.lv_c j▸B
def ztY(T cs tail ord:List Nat)(v:AV)(E:Hp):Prop:=∃(q:List Nat) (bs:Hds),q.Sublist ord∧(∀c∈names5,c∈q↔c∈za1 (za0 cs) 5)∧BookOk (za0 cs) bs q∧v = .ref 10∧E=Hp.of (zaZ T (pos T tail) (5:Nat) (q.map oneS) ++ .list false (cs.map pV) :: bO bs)
def w31(P:PM T3)(T cs tail ord:List Nat):Wt:=eW P (zah pw3 31 none,[]) [.ref 1, .ref 9, .str ord] [] (zaZ T (pos T (zaO cs tail 0)) (1:Nat) [] ++ [.list false (cs.map pV)]) (ztY T cs tail ord)
def zsq:Option Stmt:=(zeF (zah pw3 31 none).body[5]?)[1]?
def zup:Fr:=zb4 ⟨10,fun X=> .other⟩ (zah pw3 31 none).scope [] none
def wT(Q:PM T3)(N:Hp→Prop)(K:Fl→Hp→Wt)(x:TU)(W0 S:List Nat)(ne:List Nat):Wt:=zfM Q zup (zig zsq) (zeF zsq) N K (.int x.j) ((zli x.T x.cs x.tail x.ord x.t x.m ⟨W0,S,x.bs,x.st,ne,x.he⟩ x.j).set 26 (.riter (0+((x.j+1:Nat):Int)*1) (zm6 x.m (x.j+1)) 1))
def gF(bs:Hds)(m:Nat):AV:=zdK bs [m]
theorem ztt(bs:Hds)(m:Nat):zdK bs [m] = .none∨∃s,zdK bs [m] = .str s:=by
 unfold zdK
 induction bs.find? (zaD [m]) with
 | none=>exact .inl rfl
 | some p=>exact .inr ⟨_,rfl⟩
def ztX(T cs tail ord:List Nat)(t m:Nat)(pb:List AV)(st:Int)(ne:List Nat)(he:Option (List SV))(bs:List AV)(j:Nat):Hp:= .of (zaZ T (pos T (zaO cs tail 7)) (lnK 7) pb ++ [.list false (cs.map pV), .frame (nFr ord [("stay", .int st)]), .cell (some (.ref 18)), .cell (some (.str ne)), .cell (he.map .lst), .dict true [(hk, .ref 16)], .inst 345 14, .list false ((zfI (cs.take 7)).map pA), .dict true [(hk, .ref 19)], .inst 345 17, .list false bs] ++ [.range 0 7 1, .other, .other, .range 0 5 1, .riter (0+((t+1:Nat):Int)*1) (((5:Nat):Int)-(t+1:Nat)) 1, .range 0 m 1, .riter (0+(j:Int)*1) (zm6 m j) 1])
theorem znZ{T cs tail ord:List Nat}{t m j:Nat}{pb:List AV}{st:Int}{ne:List Nat}{he:Option (List SV)}{bs:List AV}:(ztX T cs tail ord t m pb st ne he bs j).okB=true:=by induction he <;> kernel_rfl
theorem zl9{T cs tail ord:List Nat}{t m j c:Nat}{W S:List Nat}{bs:Hds}{st:Int}{ne:List Nat}{he:Option (List SV)}:zli T cs tail ord t m ⟨W ++ [c],S,bs,st,ne,he⟩ j=ztX T cs tail ord t m (W.map oneS ++ [.str [c]]) st ne he (bs.map pA) j:=by
 unfold zli;rw [List.map_append];rfl
theorem zq2{T cs tail ord:List Nat}{t m j:Nat}{W S:List Nat}{bs:Hds}{b:List Nat×List Nat}{st:Int}{ne:List Nat}{he:Option (List SV)}:zli T cs tail ord t m ⟨W,S,bs ++ [b],st,ne,he⟩ j=ztX T cs tail ord t m (W.map oneS) st ne he (bs.map pA ++ [pA b]) j:=by
 unfold zli zs8 O31;rw [List.map_append];rfl
def nsH(cs:List Nat)(c:Nat):List AV:=(za0 cs c).map fun m=> .str (zaP (num (za0 cs) m))
def zu7(x:TU)(acc:List AV)(k:Nat):Hp:= .of (x.B [] ++ [.other, .list false ((Lw x.cs x.c).map .str), .other, .other, .list false (nsH x.cs x.c), .other, .liter (.ref 31) k, .list false acc, .frame []])
theorem zo3{x:TU}{acc:List AV}{k:Nat}:(zu7 x acc k).okB=true:=by
 obtain ⟨T,cs,tail,ord,t,m,j,W,st,c,he,bs⟩:=x
 induction he <;> kernel_rfl
def nmL(cs:List Nat)(c:Nat):List Nat:=(za0 cs c).map (num (za0 cs))
def hdL(cs:List Nat)(c:Nat):List SV:=(nmL cs c).map fun (v:Nat)=>SV.int (v:Int)
def nmI(cs:List Nat)(c:Nat):List Int:=(nmL cs c).map fun (v:Nat)=>(v:Int)
theorem zcy{N:Nat}(h:N≤1000000):Builtin.Range.small 0 N 1=true:=PySem.small_one (by decide) (by decide) (by lia) (by lia)
def znp(cs:List Nat)(c p:Nat):AV:= .int (if (nmL cs c).contains p then 1 else 0)
def zsE(x:TU)(N:Int)(acc:List AV)(k:Nat):Hp:= .of (TU.B {x with he:=some (hdL x.cs x.c)} [] ++ [.other, .list false ((Lw x.cs x.c).map .str), .other, .other, .list false (nsH x.cs x.c), .other, .other, .other, .other, .list false [.int (-1)], .list false (.int (-1) :: (hdL x.cs x.c).map SV.av), .range 0 N 1, .riter (0+(k:Int)*1) (zg8 N (mxL (nmL x.cs x.c)) k) 1, .list false acc, .frame []])
theorem zlb{x:TU}{N:Int}{acc:List AV}{k:Nat}:(zsE x N acc k).okB=true:=by
 obtain ⟨T,cs,tail,ord,t,m,j,W,st,c,he,bs⟩:=x
 kernel_rfl
theorem zhC(l:List Nat)(y:Nat):(l.map fun (x:Nat)=>(x:Int)).any (· == (y:Int))=l.contains y:=by
 induction l with
 | nil=>rfl
 | cons x l ih=>
  rw [List.map_cons,List.any_cons,List.contains_cons,ih]
  congr 1
  exact Bool.eq_iff_iff.mpr (by simp only [beq_iff_eq,Int.ofNat_inj];exact eq_comm)
set_option maxHeartbeats 4000000 in
theorem zrQ(B:Tbl T3 P.c)(x:TU)(S0 ne:List Nat)(R:NU→Nat→Prop)(K:Fl→Hp→Wt)(hc5:x.c∈names5)(h7:x.cs.length=7)(hWl:x.W.length≤10)(hcW:x.c∉x.W)(hbk:BookOk (za0 x.cs) x.bs (x.c :: x.W))
  (hw:(∃m∈za0 x.cs x.c,m∈x.c :: x.W)→∃S,R ⟨x.W ++ [x.c],S,x.bs,x.st+1, [x.c],x.he⟩ (x.j+1)) (hd:(∀m∈za0 x.cs x.c,m∉x.c :: x.W)→∀he,∃S,R ⟨x.W,S,x.bs ++ [(za8 [x.c],zaP (num (za0 x.cs) x.c))],x.st, [x.c],he⟩ (x.j+1)):Sm (P.lv 18) (wT (P.lv 18) (On1 (Iv (zli x.T x.cs x.tail x.ord x.t x.m) R) 27 x.j) K x (x.c :: x.W) S0 ne):=by
 have B':=lvB B 18
 have BL:=lvB B
 have hn:=zea x.c hc5
 have c7:x.cs.take 7=x.cs:=List.take_of_length_le (Nat.le_of_eq h7)
 have GA:za6 (P.lv 18) (.glob 284) [.ref 0, .str (za8 [x.c])] [] (Hp.of (hO ((zfI (x.cs.take 7)).map pA))) (DK (.lst ((Lw x.cs x.c).map .str)) (hO ((zfI (x.cs.take 7)).map pA))):=by
  have:=zkK (P:=P.lv 16) (BL 16) (zfI (x.cs.take 7)) (za8 [x.c]) (hn.2.1▸hn.2.2.1) (zjB (lT (List.length_take_le' ..) (lT (Nat.le_of_eq h7) (by decide))))
  have e:znV (zfI (x.cs.take 7)) (za8 [x.c])=(Lw x.cs x.c).map .str:=by
   unfold znV
   rw [hn.2.1,zjR hc5,c7,show (Lw x.cs x.c)=((zfI x.cs).filter (zaD [x.c])).map (·.2) from (ziM hc5).symm,List.map_map];rfl
  rwa [e] at this
 refine (let ww:Wt:=_;(?_:Sm _ ww))
 refine .callD (zdT (P:=P.lv 17) (BL 17) x.T (pos x.T (zaO x.cs x.tail 7):Nat) (lnK 7:Nat) [x.c] (x.W.map oneS) (by rw [List.length_map];exact lE hWl (by decide))) [0,1,2,3,4,5,6,7,8] (.st .o (bt (b:=sizeL) hn.2.2.2.2.2) (.callD GA [15,14,16] ?_))
 refine .loopM B' 30 (zam (q:=(false,x.cs.map pV)) (v:= .ref 9)) (zsD x) (Fm (pG x.c) x.cs) [] (.tob 10 (nFr x.ord [("stay", .int x.st),("texts", .lst ((Lw x.cs x.c).map .str))]) zla) rfl (fun X X X=>⟨by kernel_rfl,by kernel_rfl,by kernel_rfl⟩) ?_ ?_
 ·intro acc k p ep rp
  refine (let ww:Wt:=_;(?_:Sm _ ww))
  refine .rf (.a (.str [nmN p])) (some (AV.str [nmN p])) ?_
  rcases fT ([nmN p] == [x.c]) with g | g
  ·exact .st (.b true) g (.rf (.a (.str (memN p))) (some (AV.str (memN p))) (.asIs (.st .o (an (rp.len (n:=sizeL) (h7▸(by decide))) (rfl:(false || true)=true)) (.next 30 (zsD x) (Fm (pG x.c) x.cs) k (acc ++ [.str (memN p)]) (.tob 29 [] zla) (rp.one ep (by unfold pG;rw [g];rfl))))))
  ·exact .st (.b false) g (.next 30 (zsD x) (Fm (pG x.c) x.cs) k acc (.tob 29 [] zla) (rp.no ep (by unfold pG;rw [g];rfl)))
 intro acc rp
 obtain rfl:acc=(Lw x.cs x.c).map .str:=rp.all.trans (zqY x.cs x.c)
 have eL:((Lw x.cs x.c).map SV.str).map SV.av=(Lw x.cs x.c).map AV.str:=by rw [List.map_map];rfl
 have ch:∀s∈(Lw x.cs x.c),zgk s:=fun s hs=>by
  obtain ⟨p,X,rfl⟩:=mP hs
  exact zew (zcm p)
 refine (let ww:Wt:=_;(?_:Sm _ ww))
 refine .asIs (.st (.txt (Lw x.cs x.c) (Lw x.cs x.c)) (And.intro eL (And.intro (rfl:(Lw x.cs x.c).map AV.str=(Lw x.cs x.c).map AV.str) (And.intro ch ch))) (.st (.b false) (by rw [beq_self_eq_true];rfl:(!((Lw x.cs x.c)==(Lw x.cs x.c)))=false) ?_))
 have ir:∀{h:Hp},zaY h (.lst ((Lw x.cs x.c).map .str))=some (false,(zaV x.cs x.c).map fun p=>AV.str (memN p)):=congrArg (fun l=>some (false,l)) (by rw [List.map_map,Lw,List.map_map];rfl)
 have gl7:∀k,((((zaV x.cs x.c).take k).map zab).flatten.map (gF x.bs)).length≤21:=fun k=>by
  rw [List.length_map,List.length_flatten,List.map_map]
  exact lT (zbX _ (List.length ∘ zab) 3 fun p X=>zaW p) (Nat.mul_le_mul_right 3 (lT (List.length_take_le' ..) (h7▸List.length_filter_le ..)))
 refine (let ww:Wt:=_;(?_:Sm _ ww))
 refine .loopM B' 33 (zam (q:=(false,(zaV x.cs x.c).map fun p=>AV.str (memN p))) (v:= .lst ((Lw x.cs x.c).map .str))) (zu8 x) (fun acc k=>acc=(((zaV x.cs x.c).take k).map zab).flatten.map (gF x.bs)) [] (.tob 10 (nFr x.ord [("stay", .int x.st)]) zo4) rfl (fun X X X=>⟨by kernel_rfl,by kernel_rfl,ir⟩) ?_ ?_
 ·intro acc k p ep rp
  have D2:=fun {h:Hp} {K:AV→Hp→Prop}=>zkI (P:=P.lv 16) (h:=h) (K:=K) (BL 16) (memN p) (by rw [zbx];decide) (zg3 (zcm p))
  rw [zgY] at D2
  have ez:zP p=zab p:=zb2 ([za7 p]++zab p) 1
  refine (let ww:Wt:=_;(?_:Sm _ ww))
  refine .callP D2 (.ok (.st .o (bt (b:=sizeL) (Nat.succ_le_succ (lT (zaW p) (by decide:3≤16777215)))) ?_))
  refine .loopM B' 34 (za2 (z:=zP p)) (fun acc' i=>zsF x acc' k p i) (fun acc' i=>acc'=acc++((zab p).take i).map (gF x.bs)) acc (.tob 32 [] zlc) (List.append_nil acc).symm (fun X X X=>⟨by kernel_rfl,by kernel_rfl⟩) ?_ ?_
  ·intro acc' i m em ri
   rw [ez] at em
   have hm:m∈names5:=zh1 p m (mG em)
   have l1:acc'.length≤24:=by
    rw [ri,List.length_append,rp]
    exact jD (gl7 k) (lT (Nat.le_of_eq (List.length_map _)) (lT (List.length_take_le' ..) (zaW p)))
   have C:=zkL (P:=P.lv 16) (BL 16) x.bs [m] (zea m hm).1 hbk.okH
   have fin:∀v,zdK x.bs [m]=v→acc' ++ [v]=acc++((zab p).take (i+1)).map (gF x.bs):=fun v e=>by rw [ri,List.take_succ,em,List.map_append,List.append_assoc,←e];rfl
   rcases ztt x.bs m with e | ⟨s,e⟩
   ·rw [e] at C
    refine (let ww:Wt:=_;(?_:Sm _ ww))
    exact .callD C [18,17,19] (.asIs (.st .o (an (bt (lT (Nat.succ_le_succ l1) (by decide)):Nat.ble acc'.length.succ sizeL=true) (rfl:(false || true)=true)) (.next 34 (fun acc' i=>zsF x acc' k p i) (fun acc' i=>acc'=acc++((zab p).take i).map (gF x.bs)) i (acc' ++ [.none]) (.tob 32 [] zlc) (fin _ e))))
   ·rw [e] at C
    refine (let ww:Wt:=_;(?_:Sm _ ww))
    exact .callD C [18,17,19] (.asIs (.st .o (an (bt (lT (Nat.succ_le_succ l1) (by decide)):Nat.ble acc'.length.succ sizeL=true) (rfl:(false || true)=true)) (.next 34 (fun acc' i=>zsF x acc' k p i) (fun acc' i=>acc'=acc++((zab p).take i).map (gF x.bs)) i (acc' ++ [.str s]) (.tob 32 [] zlc) (fin _ e))))
  intro acc' ri
  refine (let ww:Wt:=_;(?_:Sm _ ww))
  refine .next 33 (zu8 x) (fun acc k=>acc=(((zaV x.cs x.c).take k).map zab).flatten.map (gF x.bs)) k acc' (.tob 10 (nFr x.ord [("stay", .int x.st)]) zo4) ?_
  rw [ez,List.take_length] at ri
  rw [ri,rp,List.take_succ,ep]
  simp only [Option.toList,List.map_append,List.flatten_append,List.map_cons,List.map_nil,List.flatten_cons,List.flatten_nil,List.append_nil]
 intro acc rp
 rw [List.take_length] at rp
 have e1:(za0 x.cs x.c).map (gF x.bs)=((za0 x.cs x.c).map (zmx (za0 x.cs) (x.c :: x.W))).map nst:=by
  rw [List.map_map]
  refine List.map_congr_left fun m hm=>?_
  have h5:=zaE x.cs x.c m hm
  show zdK x.bs [m]=nst (bif (x.c :: x.W).contains m then none else _)
  induction q:(x.c :: x.W).contains m with
  | true=>exact zfb hbk h5 (List.contains_iff_mem.mp q)
  | false=>exact zd4 hbk h5 fun z=>by rw [List.contains_iff_mem.mpr z] at q;exact nomatch q
 have ea:=zpm (za0 x.cs) (x.c :: x.W) (za0 x.cs x.c)
 rcases fT ((za0 x.cs x.c).any fun m=>(x.c :: x.W).contains m) with q | q
 ·obtain rfl:=rp.trans e1
  obtain ⟨S,r⟩:=hw (by
   obtain ⟨m,h1,h2⟩:=List.any_eq_true.mp q
   exact ⟨m,h1,List.contains_iff_mem.mp h2⟩)
  refine (let ww:Wt:=_;(?_:Sm _ ww))
  exact .asIs (.rf (.lo ((za0 x.cs x.c).map (zmx (za0 x.cs) (x.c :: x.W)))) (((za0 x.cs x.c).map (zmx (za0 x.cs) (x.c :: x.W))).map nst) (.st (.b true) (ea.trans q) (.callD (znT (P:=P.lv 17) (BL 17) x.T (pos x.T (zaO x.cs x.tail 7):Nat) (lnK 7:Nat) (x.W.map oneS) [x.c] (by rw [List.length_map];exact lE hWl (by decide))) [0,1,2,3,4,5,6,7,8] (.next 27 (zli x.T x.cs x.tail x.ord x.t x.m) R x.j ⟨x.W ++ [x.c],S,x.bs,x.st+1, [x.c],x.he⟩ (.eq zl9 (.tob 10 (nFr x.ord [("stay", .int (x.st+1))]) znZ)) r))))
 ·have nm:∀m∈za0 x.cs x.c,m∉x.c :: x.W:=fun m h1 h2=>List.any_eq_false.mp q m h1 (List.contains_iff_mem.mpr h2)
  have er:((za0 x.cs x.c).map (zmx (za0 x.cs) (x.c :: x.W))).map nst=nsH x.cs x.c:=by
   rw [List.map_map]
   refine List.map_congr_left fun m h=>?_
   show nst (bif (x.c :: x.W).contains m then none else _)=_
   rw [show (x.c :: x.W).contains m=false from Bool.eq_false_iff.mpr fun z=>nm m h (List.contains_iff_mem.mp z)];rfl
  obtain rfl:=(rp.trans e1).trans er
  refine (let ww:Wt:=_;(?_:Sm _ ww))
  refine .asIs (.st (.lo ((za0 x.cs x.c).map (zmx (za0 x.cs) (x.c :: x.W)))) (er.symm:nsH x.cs x.c=((za0 x.cs x.c).map (zmx (za0 x.cs) (x.c :: x.W))).map nst) (.st (.b false) (ea.trans q) ?_))
  refine .loopM B' 36 (zam (q:=(false,nsH x.cs x.c)) (v:= .ref 31)) (zu7 x) (Mp1 (fun m=>AV.int (num (za0 x.cs) m:Nat)) (za0 x.cs x.c)) [] (.tob 10 (nFr x.ord [("stay", .int x.st)]) zo3) rfl (fun X X X=>⟨by kernel_rfl,by kernel_rfl,by kernel_rfl⟩) ?_ ?_
  ·intro acc k m em rm
   have hm:=mG em
   have m5:=zaE x.cs x.c m hm
   refine (let ww:Wt:=_;(?_:Sm _ ww))
   exact .callP (zfw (P:=P.lv 15) (BL 15) (Nat.lt_trans (zcQ (fun c X=>zaE x.cs c) m5 (hbk.done m m5 (nm m hm)).1) (by decide))) (.asIs (.st .o (an (rm.len (n:=sizeL) (lE (zbk h7 x.c) (by decide))) (rfl:(false || true)=true)) (.next 36 (zu7 x) (Mp1 (fun m=>AV.int (num (za0 x.cs) m:Nat)) (za0 x.cs x.c)) k (acc ++ [.int (num (za0 x.cs) m:Nat)]) (.tob 35 [] zo3) (rm.next em))))
  intro acc rm
  obtain rfl:acc=(hdL x.cs x.c).map SV.av:=rm.all.trans (by rw [hdL,nmL,List.map_map,List.map_map];rfl)
  have hl2:(hdL x.cs x.c).length≤21:=by rw [hdL,nmL,List.length_map,List.length_map];exact zbk h7 x.c
  have ei:AV.int (-1) :: (hdL x.cs x.c).map SV.av=(-1 :: nmI x.cs x.c).map AV.int:=congrArg (AV.int (-1) :: ·) (by rw [hdL,nmI,List.map_map,List.map_map];rfl)
  refine (let ww:Wt:=_;(?_:Sm _ ww))
  refine .froz 34 (hdL x.cs x.c) (.tt (.st .o (bt (b:=sizeL) (by rw [List.length_map];exact lT (Nat.add_le_add_left hl2 1) (by decide): [AV.int (-1)].length+((hdL x.cs x.c).map SV.av).length≤sizeL)) ?_))
  have em:zso (-1 :: nmI x.cs x.c)=some ((mxL (nmL x.cs x.c):Int)-1):=by
   have:=zjL (nmL x.cs x.c)
   show some (List.foldl max (-1) (nmI x.cs x.c))=_
   rw [←this,nmI];congr 1;lia
  have mb:mxL (nmL x.cs x.c)≤65536:=zdC fun v hv=>by
   obtain ⟨m,hm,rfl⟩:=mP hv
   have m5:=zaE x.cs x.c m hm
   exact zcQ (fun c X=>zaE x.cs c) m5 (hbk.done m m5 (nm m hm)).1
  refine (let ww:Wt:=_;(?_:Sm _ ww))
  refine .st (.li (-1 :: nmI x.cs x.c)) ei (.st (.i ((mxL (nmL x.cs x.c):Int)-1)) em ?_)
  have hN:(1:Int)+((mxL (nmL x.cs x.c):Int)-1)=(mxL (nmL x.cs x.c):Nat):=(Int.add_comm 1 _).trans (Int.sub_add_cancel _ 1)
  refine (let ww:Wt:=_;(?_:Sm _ ww))
  refine .st .o (by rw [hN];exact zcy (lT mb (by decide)):Builtin.Range.small 0 (1+((mxL (nmL x.cs x.c):Int)-1)) 1=true) ?_
  refine .loopS B' 42 (mxL (nmL x.cs x.c)) (zsE x (1+((mxL (nmL x.cs x.c):Int)-1))) (fun acc k=>acc=(List.range k).map (znp x.cs x.c)) [] (.tob 10 (nFr x.ord [("stay", .int x.st)]) zlb) rfl hN (fun X X X=>⟨by kernel_rfl,by kernel_rfl⟩) ?_ ?_
  ·intro acc k hk rk
   have l1:Nat.ble acc.length.succ sizeL=true:=bt (by rw [rk,List.length_map,List.length_range];exact lT hk (lT mb (by decide)))
   have ac:=zhC (nmL x.cs x.c) k
   have fin:∀v,znp x.cs x.c k=v→acc ++ [v]=(List.range (k+1)).map (znp x.cs x.c):=fun v e=>by rw [rk,List.range_succ,List.map_append,←e];rfl
   refine (let ww:Wt:=_;(?_:Sm _ ww))
   refine .st (.li (nmI x.cs x.c)) (congrArg List.tail ei:(hdL x.cs x.c).map SV.av=(nmI x.cs x.c).map AV.int) ?_
   rcases fT ((nmL x.cs x.c).contains k) with b | b
   ·exact .st (.b true) (ac.trans b) (.asIs (.st .o (an l1 (rfl:(false || true)=true)) (.next 42 (zsE x (1+((mxL (nmL x.cs x.c):Int)-1))) (fun acc k=>acc=(List.range k).map (znp x.cs x.c)) k (acc ++ [.int 1]) (.tob 41 [] zlb) (fin _ (by unfold znp;rw [b];rfl)))))
   ·exact .st (.b false) (ac.trans b) (.asIs (.st .o (an l1 (rfl:(false || true)=true)) (.next 42 (zsE x (1+((mxL (nmL x.cs x.c):Int)-1))) (fun acc k=>acc=(List.range k).map (znp x.cs x.c)) k (acc ++ [.int 0]) (.tob 41 [] zlb) (fin _ (by unfold znp;rw [b];rfl)))))
  intro acc rk
  have hE:x.c∉za1 (za0 x.cs) 5:=fun z=>by
   obtain ⟨m,h1,h2⟩:=(zh0 hc5).mp z
   exact (hbk.done m (zaE x.cs x.c m h1) (nm m h1)).1 h2
  have en:=zjD (fun c X=>zaE x.cs c) hc5 hE
  have hv:num (za0 x.cs) x.c<10^10:=Nat.lt_trans (zcQ (fun c X=>zaE x.cs c) hc5 hE) (by decide)
  have ol:((zaz (nmL x.cs x.c)).map fun (d:Nat)=>(d:Int)).length≤65536:=by rw [List.length_map,zbN];exact mb
  have D:=fun {h:Hp} {K:AV→Hp→Prop}=>zmZ (P:=P) (h:=h) (K:=K) B 16 ((zaz (nmL x.cs x.c)).map fun (d:Nat)=>(d:Int)) 1 0 (rL 1) ol (fun d hd=>by
   obtain ⟨v,hv,rfl⟩:=mP hd
   exact zc4 _ v hv) (by rw [Nat.zero_add,Nat.one_mul];exact lT ol (by decide))
  rw [zgM,show nvl (zaz (nmL x.cs x.c))=num (za0 x.cs) x.c from en.symm] at D
  obtain rfl:acc=(((zaz (nmL x.cs x.c)).map fun (d:Nat)=>(d:Int)).map SV.int).map SV.av:=rk.trans (by
   rw [zaz,List.map_map,List.map_map,List.map_map]
   refine List.map_congr_left fun k X=>?_
   unfold znp
   show _=AV.int (Nat.cast (if _ then 1 else 0))
   split <;> rfl)
  refine (let ww:Wt:=_;(?_:Sm _ ww))
  refine .froz 40 (((zaz (nmL x.cs x.c)).map fun (d:Nat)=>(d:Int)).map SV.int) (.callP D (.st (.s (zaP (num (za0 x.cs) x.c))) (zgc hv) (.st .o (bt (b:=sizeL) hn.2.2.2.2.2) ?_)))
  have l5:zaD (za8 [x.c])=zaD [x.c]:=hn.2.1▸zjR hc5
  have f0:=hbk.gone x.c hc5 mS
  have okU:okN (za8 [x.c]):=hn.2.1.symm▸hn.2.2.1
  have C1:=zfv (P:=P.lv 15) (BL 15) x.bs (za8 [x.c]) (zaP (num (za0 x.cs) x.c)) okU (zlO hv) hbk.okH (l5▸f0)
  have C2:=zfu (P:=P.lv 15) (BL 15) (x.bs ++ [(za8 [x.c],zaP (num (za0 x.cs) x.c))]) [x.c] [45] (za8 [x.c],zaP (num (za0 x.cs) x.c)) hn.1 ⟨fun p hp=>(List.mem_append.mp hp).elim (hbk.okH.1 p) fun hp=>List.mem_singleton.mp hp▸okU.2.1,by
   have:=hbk.len
   rw [List.length_append,List.length_singleton];rw [List.length_cons] at this;lia⟩ (by
   rw [List.find?_append,f0,List.find?_cons_of_pos];rfl
   rw [zei hc5,hn.2.1,hn.2.2.2.2.1];exact beq_self_eq_true _)
  rw [List.map_append] at C2
  obtain ⟨S,r⟩:=hd nm (some (hdL x.cs x.c))
  have ne0:(!(zaP (num (za0 x.cs) x.c)==zaP (num (za0 x.cs) x.c)))=false:=by rw [beq_self_eq_true];rfl
  refine (let ww:Wt:=_;(?_:Sm _ ww))
  refine .callD C1 [18,17,19] (.st (.b false) ne0 (.callD C2 [18,17,19] (.st (.b false) ne0 (.ff ?_))))
  exact (.next 27 (zli x.T x.cs x.tail x.ord x.t x.m) R x.j ⟨x.W,S,x.bs ++ [(za8 [x.c],zaP (num (za0 x.cs) x.c))],x.st, [x.c],some (hdL x.cs x.c)⟩ (.eq zq2 (.tob 10 (nFr x.ord [("stay", .int x.st)]) znZ)) r)
theorem Sm.viaK{T:Tabs}{P:PM T}{w:Wt}{N:Hp→Prop}{x:AV}{h:Hp}(fr:Fr)(t:Expr)(b:List Stmt)(h2:Hp)(H:∀K,Sm P (zfM P fr t b N K x h2))(q:autoParam ((w.tw P N x h).nf=(zfM P fr t b N w.kf x h2).nf) Mine.kr1):Sm P (w.tw P N x h):= .via _ (H _) q
set_option maxHeartbeats 10000000
theorem zis(B:Tbl T3 P.c)(T cs tail ord:List Nat)(h7:cs.length=7)(hT:T=zaf cs++tail)(hl:T.length≤90000)(ho:ord.Perm names5):za6 (P.lv 18).up (.glob 385) [.ref 1, .ref 9, .str ord] [] (Hp.of (zaZ T (pos T (zaO cs tail 0)) (1:Nat) [] ++ [.list false (cs.map pV)])) (ztY T cs tail ord):=by
 refine zts (P:=P.lv 18) (lvB B 18) (?_:Sm (P.lv 18) (w31 (P.lv 18) T cs tail ord))
 have B':=lvB B 18
 have BL:=lvB B
 refine (let ww:Wt:=_;(?_:Sm _ ww))
 refine .newD (a:=345) (args:= []) (zkJ (P:=P.lv 16) (BL 16)) [14,15] (.newD (a:=345) (args:= []) (zkJ (P:=P.lv 16) (BL 16)) [17,18] (.ok (.loopN B' 22 7 (zse T cs tail ord) (fun X X=>True) [] (.to 10 (nFr ord [("order", .str ord)])) trivial (fun X X X=>⟨by kernel_rfl,by kernel_rfl⟩) ?_ ?_)))
 ·intro ne k hk X
  obtain ⟨c,ec⟩:∃c,cs[k]? = some c:=⟨_,List.getElem?_eq_getElem (h7.symm▸hk)⟩
  have ip:nth (cs.map pV) (k:Int)=some (.lst (zbw c)):=zaT (by rw [List.getElem?_map,ec];rfl) (bt (by rw [List.length_map,h7];decide))
  obtain ⟨d1,p1⟩:=ze9 (T:=T) (hT.trans (zfN (tail:=tail) k (h7▸lO hk)))
  obtain ⟨d2,p2⟩:=ze9 (T:=T) (hT.trans (zlp (tail:=tail) ec))
  have C1:=zgl (P:=P.lv 15) (BL 15) T hl _ (lnK k) p1 _ ((congrArg (zdF (lnK k)) d1).trans (lexA ec))
  have C2:=zgl (P:=P.lv 15) (BL 15) T hl _ (lnN (zdj k) (lnK k)) p2 _ ((congrArg (zdF (lnN (zdj k) (lnK k))) d2).trans lexB)
  have D2:=fun {h:Hp} {K:AV→Hp→Prop}=>zkI (P:=P.lv 16) (h:=h) (K:=K) (BL 16) (memN c) (by rw [zbx];decide) (zg3 (zcm c))
  rw [zgY] at D2
  have D1:=fun {h:Hp} {K:AV→Hp→Prop}=>zkI (P:=P.lv 16) (h:=h) (K:=K) (BL 16) (za9 c) (lE (zbF c).2 (by decide)) (zg3 (zbE c))
  rw [zhH] at D1
  have ch:∀s∈ [za9 c,memN c],zgk s:=fun s hs=>by
   rcases cP hs with rfl | hs
   ·exact zew (zbE c)
   ·rw [List.mem_singleton.mp hs];exact zew (zcm c)
  have A:=zfy (P:=P.lv 16) (BL 16) (zfI (cs.take k)) (ziA k c) (memN c) (zfP k c).1 (zp3 c) (zjB (lT (List.length_take_le' ..) (lT (Nat.le_of_eq h7) (by decide))))
  refine (let ww:Wt:=_;(?_:Sm _ ww))
  refine .callD C1 [0,1,2,3,4,5,6,7,8] (.callD C2 [0,1,2,3,4,5,6,7,8] (.tt (.st (.a (.lst (zbw c))) ip (.ok (.ok (.st (.txt [za9 c,memN c] [za9 c,memN c]) (And.intro (rfl: [AV.str (za9 c), .str (memN c)] = [AV.str (za9 c), .str (memN c)]) (And.intro (rfl: [AV.str (za9 c), .str (memN c)] = [AV.str (za9 c), .str (memN c)]) (And.intro ch ch))) ?_))))))
  refine .st (.b false) (by rw [beq_self_eq_true];rfl:(!([za9 c,memN c] == [za9 c,memN c]))=false) (.rf (.a (.str (memN c))) (some (AV.str (memN c))) (.callP D2 (.st (.a (.lst (zbw c))) ip (.rf (.a (.str ([za7 c]++zab c))) (some (AV.str ([za7 c]++zab c))) (.st (.b false) (by rw [beq_self_eq_true];rfl:(!([za7 c]++zab c == [za7 c]++zab c))=false) (.ff (.rf (.a (.str (za9 c))) (some (AV.str (za9 c))) (.callP D1 (.md k 2 ?_)))))))))
  have up:Nat.ble (za8 [nmN c]).length sizeL=true:=bt (lT (zgP c) (by decide))
  rcases fT (((k%2:Nat):Int) != 0) with q | q
  ·have et:ziA k c=za8 [nmN c]:=by
    have h2:k%2=1:=(Nat.mod_two_eq_zero_or_one k).resolve_left fun e=>by rw [e] at q;exact absurd q (by decide)
    unfold ziA;rw [h2];rfl
   have en:=(zfH (T:=T) (tail:=tail) (ord:=ord) (ne:= [nmN c]) ec).trans (by rw [zhE])
   rw [et] at A en
   refine (let ww:Wt:=_;(?_:Sm _ ww))
   exact .st (.b true) q (.st .o up (.rf (.a (.str (memN c))) (some (AV.str (memN c))) (.callD A [15,14,16] (.ff (.next 22 (zse T cs tail ord) (fun X X=>True) k [nmN c] (.eq en (.to 10 (nFr ord [("order", .str ord)]))) trivial)))))
  ·have et:ziA k c = [nmN c]:=by
    have h2:k%2=0:=(Nat.mod_two_eq_zero_or_one k).resolve_right fun e=>by rw [e] at q;exact absurd q (by decide)
    unfold ziA;rw [h2];rfl
   have en:=(zfH (T:=T) (tail:=tail) (ord:=ord) (ne:= [nmN c]) ec).trans (by rw [zhE])
   rw [et] at A en
   refine (let ww:Wt:=_;(?_:Sm _ ww))
   exact .st (.b false) q (.rf (.a (.str (memN c))) (some (AV.str (memN c))) (.callD A [15,14,16] (.ff (.next 22 (zse T cs tail ord) (fun X X=>True) k [nmN c] (.eq en (.to 10 (nFr ord [("order", .str ord)]))) trivial))))
 intro ne X
 have ol:ord.length=5:=ho.length_eq
 have bs0:∀{p:Nat},p<sizeL→p<sizeL:=id
 refine (let ww:Wt:=_;(?_:Sm _ ww))
 refine .loopM B' 23 (za2 (z:=ord)) (zuW T cs tail ord) (fun i j=>Mp1 oneS ord i.2 j) (ne, []) (.to 10 (nFr ord [])) rfl (fun X X X=>⟨by kernel_rfl,by kernel_rfl⟩) ?_ ?_
 ·intro i j c e r
  refine (let ww:Wt:=_;(?_:Sm _ ww))
  exact .callD (znT (P:=P.lv 17) (BL 17) T (pos T (zaO cs tail 7):Nat) (lnK 7:Nat) i.2 [c] (Nat.lt_trans (Nat.lt_of_succ_le (jL (r.len (n:=100) (ol▸(by decide:5<100))))) (by decide))) [0,1,2,3,4,5,6,7,8] (.ff (.next 23 (zuW T cs tail ord) (fun i j=>Mp1 oneS ord i.2 j) j ([c],i.2 ++ [oneS c]) (.to 10 (nFr ord [])) (r.next e)))
 intro i r
 obtain ⟨ne,pb⟩:=i
 obtain rfl:pb=ord.map oneS:=r.all
 refine (let ww:Wt:=_;(?_:Sm _ ww))
 refine .ok (.loopN B' 25 5 (zu6 T cs tail ord) (R31t (za0 cs) ord) ⟨ord, [],5,ne,none⟩ (.to 10 (nFr ord [("waiting", .int 5)])) ⟨.refl _,fun c hc=>ho.mem_iff.mp hc,⟨(Nat.zero_add _).trans ol,fun X h=>(nomatch h),fun X X X=>rfl,fun c hc h=>absurd (ho.mem_iff.mpr hc) h⟩,by rw [ol];rfl⟩ (fun X X X=>⟨by kernel_rfl,by kernel_rfl⟩) ?_ ?_)
 ·intro i t ht rt
  obtain ⟨q,bs,wt,ne,he⟩:=i
  obtain rfl:wt=(q.length:Int):=rt.wt
  have ql:q.length≤5:=ol▸rt.sub.length_le
  have sm:Builtin.Range.small 0 (q.length:Int) 1=true:=zcy (lT ql (by decide))
  refine (let ww:Wt:=_;(?_:Sm _ ww))
  refine .st .o sm (.loopS B' 27 q.length (zli T cs tail ord t q.length) (R31u (za0 cs) q t) ⟨q, [],bs,0,ne,he⟩ (.tob 10 (nFr ord [("stay", .int 0)]) zsc) ⟨(List.append_nil _).symm,List.nil_sublist _,fun X h=>(nomatch h),rt.bk,rfl⟩ rfl (fun X X X=>⟨by kernel_rfl,by kernel_rfl⟩) ?_ ?_)
  ·intro i j hj r
   obtain ⟨W0,S,bs,st,ne,he⟩:=i
   obtain ⟨c,qc⟩:∃c,q[j]? = some c:=⟨_,List.getElem?_eq_getElem hj⟩
   have hdr:q.drop j=c :: q.drop (j+1):=by rw [List.drop_eq_getElem_cons hj,(gE qc).2]
   obtain ⟨rW,rs,rl,rb,rst⟩:=r
   have rs:S.Sublist (q.take j):=rs
   obtain rfl:W0=c :: (q.drop (j+1)++S):=rW.trans (congrArg (· ++ S) hdr)
   obtain rfl:st=(S.length:Int):=rst
   have hc5:c∈names5:=ho.mem_iff.mp (rt.sub.subset (mG qc))
   have hWl:(q.drop (j+1)++S).length≤10:=by
    have:=rs.length_le
    rw [List.length_take] at this
    rw [List.length_append,List.length_drop]
    exact lT (jD (lT (Nat.sub_le _ _) ql) (lT this (lT (Nat.min_le_right _ _) ql))) (by decide)
   have tk:q.take (j+1)=q.take j ++ [c]:=by rw [List.take_succ,qc];rfl
   have nd:(q.take j++c :: q.drop (j+1)).Nodup:=by
    rw [←hdr,List.take_append_drop];exact rt.sub.nodup (ho.nodup_iff.mpr (by decide))
   obtain ⟨X,n2,n3⟩:=List.nodup_append.mp nd
   have hcW:c∉q.drop (j+1)++S:=fun z=>(List.mem_append.mp z).elim (List.nodup_cons.mp n2).1 fun z=>n3 c (rs.subset z) c mS rfl
   refine (let ww:Wt:=_;(?_:Sm _ ww))
   exact .viaK zup (zig zsq) (zeF zsq) _ fun K=>zrQ B ⟨T,cs,tail,ord,t,q.length,j,q.drop (j+1)++S,S.length,c,he,bs⟩ S ne (R31u (za0 cs) q t) K hc5 h7 hWl hcW rb (fun ⟨m,m1,m2⟩=>⟨S ++ [c],by rw [List.append_assoc],tk▸rs.append (.refl _),fun z hz=>(List.mem_append.mp hz).elim (rl z) fun hz=>by
     rw [List.mem_singleton.mp hz]
     have hq:∀z,z∈c :: q.drop (j+1)→z∈q:=fun z h=>List.mem_of_mem_drop (hdr▸h)
     refine (zbb hc5).mpr ⟨m,m1,?_⟩
     rw [←List.cons_append] at m2
     exact (List.mem_append.mp m2).elim (fun h=>rt.left m (hq m h)) fun h=>zc9 _ _ _ (rl m h),zkP (fun z=>by simp only [List.mem_cons,List.mem_append,List.not_mem_nil,or_false];exact or_comm) (by rw [List.length_append (bs:= [c]),List.length_singleton,List.length_cons]) rb,by rw [List.length_append];rfl⟩)
    fun nm he'=>⟨S,rfl,rs.trans (tk▸List.sublist_append_left _ _),rl,(zea c hc5).2.1▸zkO hc5 hcW nm (fun m hm=>zaE cs c m hm) rb,rfl⟩
  intro i r
  obtain ⟨W,S,bs,st,ne,he⟩:=i
  obtain rfl:W=S:=by have:=r.W;rwa [List.drop_length,List.nil_append] at this
  refine (let ww:Wt:=_;(?_:Sm _ ww))
  exact .next 25 (zu6 T cs tail ord) (R31t (za0 cs) ord) t ⟨W,bs,st,ne,he⟩ (.tob 10 (nFr ord [("waiting", .int st)]) zsd) ⟨(List.take_length (l:=q)▸r.sub).trans rt.sub,r.left,r.bk,r.st⟩
 intro i rt
 obtain ⟨q,bs,wt,ne,he⟩:=i
 have e7:zaO cs tail 7=tail:=by
  unfold zaO
  rw [List.drop_of_length_le (by rw [List.length_mapIdx,h7];exact rL 7)];rfl
 refine (let ww:Wt:=_;(?_:Sm _ ww))
 refine .ff (.asIs (.endK 10 (ztY T cs tail ord) (.ref 10) (zaZ T (pos T (zaO cs tail 7)) (lnK 7) (q.map oneS) ++ .list false (cs.map pV) :: bO bs) [0,1,2,3,4,5,6,7,8,9,25,18,17,19] ⟨q,bs,rt.sub,fun c hc=>⟨rt.left c,fun z=>Classical.byContradiction fun n=>(rt.bk.done c hc n).1 z⟩,rt.bk,rfl,by rw [e7];rfl⟩))
end
theorem Wk.msk{h g:Hp}(L:Nat)(l:List (Str×AV))(hf:autoParam ((h.at_ L).frame?.isSome=true) Mine.kr1)(e1:autoParam ((l.map fun p=>((h.at_ L).frame?.getD []).lookup p.1)=l.map fun p=>some p.2) Mine.kr1)(e2:autoParam (((List.range g.nx).map fun k=>cond (g.at_ k).live ((h.set L (.frame l)).at_ k) .other)=(List.range g.nx).map g.at_) Mine.kr1)(b:autoParam ((Nat.ble g.nx h.nx&&(List.range g.nx).all fun k=>!(g.at_ k).live || (g.at_ k).bf g.nx)=true) Mine.kr1):Wk h g:=by
 have z:Wk (h.set L (.frame l)) ⟨h.nx,fun k=>cond (g.at_ k).live ((h.set L (.frame l)).at_ k) .other⟩:=⟨rL _,fun k X=>by
  show (cond (g.at_ k).live ((h.set L (.frame l)).at_ k) .other:AO).live=true→((h.set L (.frame l)).at_ k).live=true∧∀c W ob,ObjIs c W h.nx ob ((h.set L (.frame l)).at_ k)→ObjIs c W h.nx ob (cond (g.at_ k).live ((h.set L (.frame l)).at_ k) .other)
  induction (g.at_ k).live with
  | true=>exact fun l=>⟨l,fun X X X i=>i⟩
  | false=>exact fun l=>nomatch l⟩
 obtain ⟨l',q⟩:=iE hf
 exact (Wk.frm q (by rw [q] at e1;exact e1)).trans (z.trans (.cut e2 b))
section
variable {P:PM T3}
def fd34:FDat:=zah pw3 34 none
def w34(P:PM T3)(vs:Array Value)(is:List Int):Wt:=dW P (fd34,[]) [.ref 0] [] [.flist vs 0 is] (.bool true) [.flist vs 0 is]
noncomputable def baL:List Nat:=[512,200000530520,11010800611,322020001032,51002602,221039591223,112180902001,201000800012]
def zir(is:List Int)(k b:Nat):Nat:=(((b:Int)+(zaF is (some (k:Int)) none (some 8)).sum)%1000000000000).toNat
def zrK(is:List Int):List Nat:=baL.mapIdx (zir is)
noncomputable def c34(pr lx bk en fo nu he on wi:Option AV):List AO:=[.cell (some (.ref 0)), .cell pr, .cell lx, .cell bk, .cell en, .cell fo, .cell nu, .cell he, .cell on, .cell wi]
def n34:List AO:=c34 none none none none none none none none none
def zuU(vs:Array Value)(is:List Int)(acc:List AV)(k:Nat):Hp:= .of (.flist vs 0 is :: .frame [] :: n34 ++ [.list false (baL.map fun b=> .int (b:Nat)), .liter (.ref 12) k, .enumr 13 k, .list false acc, .frame []])
theorem zhT{α β:Type}(f:α→β)(xs:List α)(lo hi st:Option Int):zaF (xs.map f) lo hi st=(zaF xs lo hi st).map f:=by
 unfold zaF
 simp only [List.length_map]
 generalize PySem.sliceBounds lo hi st xs.length=z
 simp [List.map_filterMap]
def zmH(is:List Int)(j:Nat):AV:= .int (zir is j (baL.getD j 0):Nat)
theorem zmG(is:List Int)(k b:Nat):((b:Int)+(zaF is (some (k:Int)) none (some 8)).sum).fmod 1000000000000=(zir is k b:Nat):=by
 rw [Int.fmod_eq_emod_of_nonneg _ (by decide)]
 exact (Int.toNat_of_nonneg (Int.emod_nonneg _ (by decide))).symm
def zi0(c0:Nat):List Nat:=zao (zao names5 (some ((c0%10%5:Nat):Int)) none none++zao names5 none (some ((c0%10%5:Nat):Int)) none) none none (some (1-2*((c0/10%10%2:Nat):Int)))
theorem zoF(n:Nat):(2:Int)^(1+(n:Int)).toNat=(2^(1+n):Nat):=by
 rw [show (1:Int)+(n:Int)=((1+n:Nat):Int) from rfl,Int.toNat_natCast];push_cast;rfl
theorem zqW{n:Nat}(h:n≤12000):(decide (0≤1+(n:Int))&&decide (1+(n:Int)≤100000)&&decide ((2:Int).natAbs<2^64))=true:=an (an (dT (by lia)) (dT (by lia))) (by decide)
theorem zaM{α:Type}{z:List α}{f:α→AV}{t:Expr}{it:Nat}{v:AV}{q:Bool×List AV}(e:q.2=z.map f):Iter P t it (z.map f) (fun k h=>h.at_ it = .liter v k∧zaY h v=some q) (fun k h=>h.set it (.liter v (k+1))) fun h=>h.set it .other:=e▸zam
noncomputable def csV(c0:Nat)(cr:List Nat):List SV:=(c0 :: cr).map fun c=>SV.int (c:Nat)
def sl1(c0:Nat)(cr:List Nat):List AV:=zaF ((csV c0 cr).map SV.av) (some 1) none none
theorem znk(c0:Nat)(cr:List Nat):sl1 c0 cr=cr.map fun (c:Nat)=>AV.int c:=by
 have:=zfU ((csV c0 cr).map SV.av) 1
 exact this.trans (by rw [csV,List.map_map];rfl)
noncomputable def unI(c0:Nat):Int:=((2^(1+c0/100%12000/2):Nat):Int)-(c0/100%12000%2:Nat)
def f34(c0:Nat)(cr:List Nat):List (Str×AV):=[("cells", .lst (csV c0 cr)),("order", .str (zi0 c0)),("unit", .int (unI c0))]
def zuN(vs:Array Value)(is:List Int)(c0:Nat)(cr:List Nat)(acc:List AV)(k:Nat):Hp:= .of (.flist vs 0 is :: .frame (f34 c0 cr) :: n34 ++ [.other, .other, .other, .other, .other, .list false (sl1 c0 cr), .liter (.ref 17) k, .list false acc, .frame []])
theorem zqO(c0:Nat)(cr:List Nat):sl1 c0 cr=((nI cr).map SV.int).map SV.av:=(znk c0 cr).trans (by rw [nI,List.map_map,List.map_map];rfl)
theorem zlJ:∀st,st<5→∀t,t<2→(zao (names5.drop st++names5.take st) none none (some (1-2*((t:Nat):Int)))).Perm names5:=by decide +kernel
theorem zaL(c0:Nat):(zi0 c0).Perm names5:=by
 unfold zi0
 rw [zb2,zeR]
 exact zlJ _ (mT _ (by decide)) _ (mT _ (by decide))
theorem pos0{cr tl:List Nat}:pos (zaf cr++tl) (zaO cr tl 0)=0:=Nat.sub_self _
def ztl(T:List Nat)(p ln:Nat)(pb:List AV):List AO:=[.list false [.str T, .int p], .dict true [(kLn, .int ln),(kIn, .ref 25),(kWs, .str wsL),(kPb, .ref 30)], .inst 133 23, .inst 133 26, .dict true [(kLn, .int 1),(kIn, .none),(kWs, .str wsL),(kPb, .ref 27),(kRd, .ref 28)], .list false [], .clo zfa [("page",29)], .cell (some (.ref 22)), .list false pb]
noncomputable def bkC(bs:Hds):List AO:=[.list true [.ref 32], .inst 345 33, .dict true [(hk, .ref 34)], .list false (bs.map pA)]
structure L34 where
 vs:Array Value
 is:List Int
 c0:Nat
 cr:List Nat
 bs:Hds
def L34.T(x:L34):List Nat:=zaf x.cr++tailT
def L34.p(x:L34):Nat:=pos x.T tailT
def L34.hold(x:L34):Nat→List Nat:=za0 x.cr
def g34(c0:Nat)(tx:List Nat)(l:List (Str×AV)):List (Str×AV):=("order", .str (zi0 c0)) :: ("unit", .int (unI c0)) :: ("text", .str tx) :: ("page", .ref 22) :: l
def L34.B(x:L34)(fr:List (Str×AV))(cl:List AO)(q:List Nat):List AO:= .flist x.vs 0 x.is :: .frame (g34 x.c0 (zaf x.cr) fr) :: .other :: .cell (some (.ref 19)) :: .cell (some (.ref 24)) :: .cell (some (.ref 31)) :: (cl++(List.replicate 7 .other++(.list false (x.cr.map pV) :: .other :: .other :: (ztl x.T x.p 5 (q.map oneS)++(bkC x.bs ++ [.other])))))
noncomputable def cl0(en fo nu he on wi:Option AV):List AO:=[.cell en, .cell fo, .cell nu, .cell he, .cell on, .cell wi]
def zuR(x:L34)(q:List Nat)(i:List (List Nat×AV)×List Nat)(j:Nat):Hp:= .of (x.B [] (cl0 none none none none none none) q ++ [.siter names5 j, .dict false i.1, .frame [], .cell (nmC j i.2)])
def zu3(x:L34)(q:List Nat)(d:List (List Nat×AV))(j c:Nat)(acc:List AV)(k:Nat):Hp:= .of (x.B [] (cl0 none none none none none none) q ++ [.siter names5 (j+1), .dict false d, .frame [], .cell (some (.str [c])), .liter (.ref 19) k, .list false acc, .frame []])
def hG(c p:Nat):Option AV:=bif [nmN p] == [c] then some (.str (zP p)) else none
theorem zrm(cs:List Nat)(c:Nat):cs.filterMap (hG c)=((zaV cs c).map zP).map .str:=by
 unfold hG zaV
 simp only [zjy]
 rw [fmB (fun p=>nmN p==c) (fun p=>AV.str (zP p)),List.map_map];rfl
theorem zqg(p:Nat):zP p=zab p:=zb2 ([za7 p]++zab p) 1
theorem zjY(cs:List Nat)(c:Nat):zaB [] ((zaV cs c).map zP)=za0 cs c:=by
 rw [zaA,za0,show zP=zab from funext zqg]
theorem zqf{cs:List Nat}(h7:cs.length=7)(c:Nat):(((zaV cs c).map zP).map List.length).sum≤21:=by
 have:=zbk h7 c
 rwa [za0,List.length_flatten,←show zP=zab from funext zqg] at this
def fH(hold:Nat→List Nat)(c:Nat):AV:= .str (hold c)
def eG(hold:Nat→List Nat)(c:Nat):Option AV:=bif (za1 hold 5).contains c then none else some (oneS c)
def x34(x:L34):AV:= .lst ((za1 x.hold 5).map zdi)
def zu5(x:L34)(q:List Nat)(acc:List AV)(k:Nat):Hp:= .of (x.B [("holds", .ref 37)] (cl0 (some (x34 x)) none none none none none) q ++ [.other, .dict false (dL (fH x.hold) 5), .other, .other, .siter names5 k, .list false acc, .frame []])
def zac(hold:Nat→List Nat):List Nat:=names5.filter fun c=>!(za1 hold 5).contains c
theorem znI(hold:Nat→List Nat):names5.filterMap (eG hold)=((zac hold).map zdi).map SV.av:=by
 have:eG hold=fun c=>bif !(za1 hold 5).contains c then some (oneS c) else none:=funext fun c=>by unfold eG;induction (za1 hold 5).contains c <;> rfl
 rw [this,fmB (fun c=>!(za1 hold 5).contains c) oneS,zac,List.map_map];rfl
def d34(x:L34):AV:= .lst ((zac x.hold).map zdi)
def h34(x:L34):List AO:=[.other, .dict false (dL (fH x.hold) 5), .other, .other]
def zu4(x:L34)(q:List Nat)(acc:List AV)(k:Nat):Hp:= .of (x.B [("holds", .ref 37),("ended",d34 x)] (cl0 (some (x34 x)) none none none none none) q++h34 x ++ [.other, .other, .other, .siter names5 k, .list false acc, .frame []])
theorem zg2(l:List Nat):(l.map zdi).map SV.av=(l.map fun c=> [c]).map AV.str:=by rw [List.map_map,List.map_map];rfl
theorem zfr{l:List Nat}(h:∀m∈l,m∈names5):∀s∈l.map fun c=> [c],zgk s:=fun s hs x hx=>by
 obtain ⟨m,hm,rfl⟩:=mP hs
 exact (by decide:∀m∈names5,m<0x110000) x (List.mem_singleton.mp hx▸h m hm)
def zuL(x:L34)(i:List AV×List Nat)(k:Nat):Hp:= .of (x.B [("holds", .ref 37),("ended",d34 x)] (cl0 (some (x34 x)) none none none none none) i.2++h34 x ++ [.other, .other, .other, .other, .other, .other, .liter (x34 x) k, .list false i.1, .frame []])
def zu0(x:L34)(q:List Nat)(acc:List AV)(k:Nat):Hp:= .of (x.B [("holds", .ref 37),("ended",d34 x)] (cl0 (some (x34 x)) none none none none none) []++h34 x ++ [.other, .other, .other, .other, .other, .other, .other, .list false (q.map oneS), .other, .siter (zi0 x.c0) k, .list false acc, .frame []])
theorem zhO{q ord E:List Nat}(hs:q.Sublist ord)(nd:ord.Nodup)(h:∀c∈ord,c∈q↔c∈E):q=ord.filter fun c=>E.contains c:=by
 have h1:q.filter (fun c=>E.contains c)=q:=List.filter_eq_self.mpr fun c hc=>List.contains_iff_mem.mpr ((h c (hs.subset hc)).mp hc)
 have h2:(q.filter fun c=>E.contains c).Sublist (ord.filter fun c=>E.contains c):=hs.filter _
 rw [h1] at h2
 refine h2.eq_of_length ((List.perm_ext_iff_of_nodup (nd.sublist hs) (nd.sublist List.filter_sublist)).mpr fun c=>?_).length_eq
 rw [List.mem_filter]
 exact ⟨fun hc=>⟨hs.subset hc,List.contains_iff_mem.mpr ((h c (hs.subset hc)).mp hc)⟩,fun hc=>(h c hc.1).mpr (List.contains_iff_mem.mp hc.2)⟩
noncomputable def nL(f:Nat→AV)(l:List Nat):List (List Nat×AV):=l.map fun c=>([c],f c)
theorem zoD(es:List (List Nat×AV))(s:List Nat)(v:AV)(h:∀e∈es,e.1≠s):zcj es s v=es ++ [(s,v)]:=by
 induction es with
 | nil=>rfl
 | cons e r ih=>
  rw [zcj,beq_eq_false_iff_ne.mpr (h e mS),cond_false,ih fun e q=>h e (mM _ q)];rfl
theorem zjm{f:Nat→AV}{l:List Nat}{d:List (List Nat×AV)}{k c:Nat}(nd:l.Nodup)(r:d=nL f (l.take k))(e:l[k]? = some c):zcj d [c] (f c)=nL f (l.take (k+1)):=by
 subst r
 have tk:l.take (k+1)=l.take k ++ [c]:=by rw [List.take_succ,e];rfl
 have nd2:(l.take (k+1)).Nodup:=nd.sublist (List.take_sublist _ _)
 rw [tk]
 show _=List.map _ (_++_)
 rw [List.map_append]
 refine zoD _ _ _ fun e he hc=>?_
 obtain ⟨x,hx,rfl⟩:=mP he
 rw [tk,List.nodup_append] at nd2
 exact nd2.2.2 x hx c mS (List.cons.inj hc).1
theorem zm2(f:Nat→AV):∀{l:List Nat} {c:Nat},c∈l→zar (nL f l) [c]=some (f c)
 | x :: l,c,h=>by
  by_cases q:x=c
  ·subst q;exact congrArg (Option.map Prod.snd) (List.find?_cons_of_pos (p:=fun e:List Nat×AV=>e.1 == [x]) (beq_self_eq_true [x]))
  ·have:=zm2 f ((cP h).resolve_left (Ne.symm q))
   unfold zar nL at this⊢
   rw [List.map_cons,List.find?_cons_of_neg (p:=fun e:List Nat×AV=>e.1 == [c]) (by simpa using q)];exact this
def fN(hold:Nat→List Nat)(c:Nat):AV:= .int (num hold c:Nat)
noncomputable def t34(x:L34):List AO:=[.other, .other, .other, .other, .other, .other, .other, .other, .other, .other, .other, .other]
def zuO(x:L34)(d:List (List Nat×AV))(k:Nat):Hp:= .of (x.B [("holds", .ref 37),("ended",d34 x)] (cl0 (some (x34 x)) (some (.ref 52)) none none none none) []++h34 x++t34 x ++ [.dict false (dL (fB x.hold 5) 5), .liter (d34 x) k, .dict false d, .frame []])
theorem zdO{hold:Nat→List Nat}{c:Nat}(h:c∈zac hold):c∈names5∧c∉za1 hold 5:=(List.mem_filter.mp h).imp id fun q z=>by rw [List.contains_iff_mem.mpr z] at q;exact nomatch q
end
def zq5:Option Stmt:=fd34.body[19]?
def zsl:Option Stmt:=(zeF zq5)[1]?
def zsf:Option Stmt:=(zeF zq5)[4]?
def zq7:Fr:=zb4 ⟨1,fun X=> .other⟩ fd34.scope [] none
noncomputable abbrev Cs:=Option (List SV×List SV×Int)
noncomputable def cs3(o:Cs):List AO:=[.cell (o.map fun a=> .lst a.1), .cell (o.map fun a=> .lst a.2.1), .cell (o.map fun a=> .int a.2.2)]
def L34.N(x:L34)(fr:List (Str×AV))(cs:List AO):List AO:= .flist x.vs 0 x.is :: .frame (("unit", .int (unI x.c0)) :: ("page", .ref 22) :: ("holds", .ref 37) :: ("ended",d34 x) :: fr) :: .other :: .other :: .cell (some (.ref 24)) :: .other :: .other :: .cell (some (.ref 52)) :: .cell (some (.ref 54)) :: (cs++(List.replicate 10 .other++(ztl x.T x.p 5 []++(List.replicate 6 .other ++ .dict false (dL (fH x.hold) 5) :: (List.replicate 14 .other ++ [.dict false (dL (fB x.hold 5) 5), .other, .dict false (nL (fN x.hold) (zac x.hold)), .other])))))
def zti(x:L34)(c:Nat):AV:= .lst ((x.hold c).map fun m=> .str (za5 x.hold 5 m))
def zsb(x:L34)(c j:Nat)(o:Cs)(_:Unit)(k:Nat):Hp:= .of (x.N [("name",oneS c),("members",zti x c)] (cs3 o) ++ [.liter (d34 x) (j+1), .other, .other, .other, .liter (d34 x) k])
theorem zo2{x:L34}{c j:Nat}{o:Cs}{u:Unit}{k:Nat}:(zsb x c j o u k).okB=true:=by induction o <;> kernel_rfl
def w34o(Q:PM T3)(x:L34)(c d j:Nat)(o:Cs)(k:Nat)(K:Fl→Hp→Wt):Wt:=zfM Q zq7 (zig zsl) (zeF zsl) (On1 (Iv (zsb x c j o) fun X X=>True) 61 k) K (oneS d) ((zsb x c j o () k).set 60 (.liter (d34 x) (k+1)))
theorem Wk.tm{h g:Hp}(L:Nat)(l:List (Str×AV))(b:g.okB=true)(hf:autoParam ((h.at_ L).frame?.isSome=true) Mine.kr1)(e1:autoParam ((l.map fun p=>((h.at_ L).frame?.getD []).lookup p.1)=l.map fun p=>some p.2) Mine.kr1)(e2:autoParam (((List.range g.nx).map fun k=>cond (g.at_ k).live ((h.set L (.frame l)).at_ k) .other)=(List.range g.nx).map g.at_) Mine.kr1)(b1:autoParam (Nat.ble g.nx h.nx=true) Mine.kr1):Wk h g:= .msk L l hf e1 e2 (an b1 b)
section
variable {P:PM T3}
theorem zhw(a b:Nat):((a:Int)==(b:Int))=(a==b):=Bool.eq_iff_iff.mpr (by simp only [beq_iff_eq,Int.ofNat_inj])
theorem zgS{a b:Bool}(e:a=b):(!(a==b))=false:=by subst e;induction a <;> rfl
noncomputable def znd(N u low:Nat):Nat:=(N+2*low)*u+u/3
theorem zoU{m b t:Nat}(hb:0<b)(h1:m*b≤t)(h2:t<(m+1)*b):(-1-(t:Int))/(b:Int) = -((m+1:Nat):Int):=by
 have e: -1-(t:Int)=Int.negSucc t:=by rw [Int.negSucc_eq,Int.neg_add,Int.sub_eq_add_neg,Int.add_comm]
 rw [e,Int.negSucc_ediv _ (Int.natCast_pos.mpr hb)]
 show -(((t/b:Nat):Int)+1)=_
 rw [Nat.div_eq_of_lt_le h1 h2];rfl
theorem zpA{C u P:Nat}(hu:1≤u)(hP:1≤P):(-1-(znd C u (P*u):Int))/((P*u:Nat):Int) = -((2*u+C/P+1:Nat):Int):=by
 have e2:(C+2*(P*u))*u=(2*(P*u))*u+C*u:=(Nat.add_mul ..).trans (Nat.add_comm ..)
 have e0:2*u*(P*u)=(2*(P*u))*u:=by rw [Nat.mul_assoc 2 u,Nat.mul_comm u (P*u),←Nat.mul_assoc 2]
 have h1:(2*u+C/P)*(P*u)≤znd C u (P*u):=by
  unfold znd
  rw [Nat.add_mul (2*u),e0,←Nat.mul_assoc (C/P),e2]
  exact lT (Nat.add_le_add_left (Nat.mul_le_mul_right u (Nat.div_mul_le_self C P)) _) (Nat.le_add_right ..)
 have h2:znd C u (P*u)<(2*u+C/P+1)*(P*u):=by
  have h2:(C+1)*u≤(C/P*P+P)*u:=Nat.mul_le_mul_right u (Nat.lt_div_mul_add hP (a:=C))
  unfold znd
  rw [Nat.add_assoc (2*u),Nat.add_mul (2*u),e0,←Nat.mul_assoc (C/P+1),Nat.add_mul (C/P),Nat.one_mul,e2,Nat.add_assoc]
  rw [Nat.add_mul,Nat.one_mul] at h2
  exact Nat.add_lt_add_left (lL (Nat.add_lt_add_left (Nat.div_lt_self hu (by decide)) _) h2) _
 exact zoU (Nat.mul_pos hP hu) h1 h2
theorem z17{L Z:Nat}(h:L<Z):65536+2*L≤Z*2^17:=by omega
theorem lt4{a L Z:Nat}(h1:a≤Z)(h2:L<Z):a+2*L<Z*2^2:=by omega
theorem lt5{u q Z:Nat}(h1:u<Z)(h2:q<Z):2*u+q+1<Z*2^2:=by omega
theorem zth{t b:Nat}(h:t≤2*b+17)(h1:1≤b):t+b-1≤b*1000:=by omega
theorem zsQ{y t:Nat}{a b:Int}(h:(y:Int) = -1-(a+b)∨(y:Int) = -(-1-(a+b))-1)(ha:0≤a)(hb:0≤b)(e:a+b=(t:Int)):y=t:=by omega
theorem zoe{C u L:Nat}(hC:C<65536)(huL:u≤L)(hL:1≤L):zaC (znd C u L)≤2*zaC L+17:=by
 refine zeC ?_
 have hb:=zdf L
 generalize zaC L=b at hb
 have h1:znd C u L≤(65536+2*L)*L:=by
  have h3:(C+2*L+1)*u≤(65536+2*L)*L:=Nat.mul_le_mul (Nat.add_right_comm C (2*L) 1▸Nat.add_le_add_right hC (2*L)) huL
  rw [Nat.add_mul (C+2*L) 1 u,Nat.one_mul] at h3
  exact lT (Nat.add_le_add_left (Nat.div_le_self ..) _) h3
 have h3:(65536+2*L)*L<2^(b+17)*2^b:=Nat.mul_lt_mul_of_le_of_lt (Nat.pow_add 2 b 17▸z17 hb) hb (Nat.pow_pos (by decide))
 rw [←Nat.pow_add,Nat.add_right_comm,←Nat.two_mul] at h3
 exact lE h1 h3
theorem zpU(l:List (List Nat))(x:List Nat):l.any (· == x)=l.contains x:=by
 induction l with
 | nil=>rfl
 | cons y l ih=>rw [List.any_cons,List.contains_cons,ih,Bool.eq_iff_iff.mpr (by simp only [beq_iff_eq];exact eq_comm:(y==x)=true↔(x==y)=true)]
theorem zmD{u t:Nat}:Int.fmod (-((2*u+t+1:Nat):Int)) 2=((2*u+t+1)%2:Nat):=by
 rw [Int.fmod_eq_emod_of_nonneg _ (by decide),Int.neg_emod_two];rfl
theorem even_odd{u t:Nat}:((((2*u+t+1)%2:Nat):Int)==0)=(t%2==1):=by
 rw [Nat.add_assoc,Nat.mul_add_mod,Nat.add_mod]
 rcases Nat.mod_two_eq_zero_or_one t with h | h <;> rw [h] <;> rfl
theorem ztw(u:Nat):(u:Int).fdiv 3=(u/3:Nat):=(dvE u (k:=3) rfl).1
theorem gbp3(u:Nat):((3:Int) != 0 && !Builtin.divisionGoesByPylong (u:Int) 3)=true:=(dvE u (k:=3) rfl).2
set_option maxHeartbeats 4000000 in
theorem zpK(B:Tbl T3 P.c)(x:L34)(c d j k u:Nat)(o:Cs)(K:Fl→Hp→Wt)(hc:c∈zac x.hold)(hd:d∈zac x.hold)(hm:∀c∈names5,∀m∈x.hold c,m∈names5)(hu:unI x.c0=u)(u1:1≤u)(u2:u<2^6001):Sm (P.lv 19) (w34o (P.lv 19) x c d j o k K):=by
 obtain ⟨hc5,hcE⟩:=zdO hc
 obtain ⟨hd5,hdE⟩:=zdO hd
 have ln:=fun {c}=>zm2 (fN x.hold) (l:=zac x.hold) (c:=c)
 have lf:∀{c},c∈names5→zar (dL (fB x.hold 5) 5) [c]=some (fB x.hold 5 c):=fun {c} h=>zby (za5 x.hold 5) .str c h
 have hF:=zlN hm hd5 hc5 hdE hcE
 have hb:=zn0 hm hc5 hd5 hcE hdE
 have hC:=zcQ hm hc5 hcE
 have hD:=zcQ hm hd5 hdE
 obtain ⟨Q,hQ⟩:∃Q,Q=2^num x.hold d:=⟨_,rfl⟩
 obtain ⟨L,hL⟩:∃L,L=Q*u:=⟨_,rfl⟩
 obtain ⟨B1,hB1⟩:∃B1:Nat,B1=65536:=⟨_,rfl⟩
 have hp2:Q<2^B1:=hQ▸Nat.pow_lt_pow_right (by decide) (hB1▸hD)
 have Q1:1≤Q:=hQ▸Nat.one_le_two_pow
 have eQ:(2:Int)^(num x.hold d:Int).toNat=(Q:Nat):=by rw [hQ,Int.toNat_natCast];push_cast;rfl
 rw [←hQ] at hb
 clear hQ
 have hBs:B1+6001+2≤80000:=by rw [hB1];decide
 have hBt:=Nat.le_of_add_right_le hBs
 have l2:L<2^(B1+6001):=by rw [hL,Nat.pow_add];exact Nat.mul_lt_mul'' hp2 u2
 have L1:1≤L:=hL▸Nat.mul_pos Q1 u1
 have uL:u≤L:=hL▸Nat.le_mul_of_pos_left _ Q1
 have l3:num x.hold c+2*L<2^(B1+6001+2):=by
  have h1:num x.hold c≤2^(B1+6001):=lT (lO hC) (lT (by decide:65536≤2^16) (pR (by decide) (lT (by decide:16≤6001) (Nat.le_add_left ..))))
  rw [Nat.pow_add _ (B1+6001) 2]
  exact lt4 h1 l2
 have sm:∀{n k:Nat},n<2^k→k≤80000→za3 (n:Int)=true:=fun h hk=>zax (by rw [Int.natAbs_natCast];exact h) (lT hk (by decide))
 have su:za3 (unI x.c0)=true:=by rw [hu];exact sm u2 (by decide)
 refine (let ww:Wt:=_;(?_:Sm _ ww))
 refine .st (.a (fN x.hold d)) (ln hd) (.st (.a (fN x.hold c)) (ln hc) (.st (.a (fB x.hold 5 d)) (lf hd5) (.st (.a (fB x.hold 5 c)) (lf hc5) (.st (.b false) (zgS ((zhw (num x.hold d) (num x.hold c)).trans hF)) ?_))))
 refine .st (.a (fN x.hold d)) (ln hd) (.st (.i Q) (And.intro eQ (an (an (dT (Int.natCast_nonneg _)) (dT (Int.ofNat_le.mpr (lT (lO hD) (by decide)):(num x.hold d:Int)≤((100000:Nat):Int)))) (by decide):(decide (0≤(num x.hold d:Int))&&decide ((num x.hold d:Int)≤100000)&&decide ((2:Int).natAbs<2^64))=true)) ?_)
 refine .st (.i L) (And.intro (by rw [hu,hL];push_cast;rfl:(Q:Int)*unI x.c0=L) (an (sm hp2 (Nat.le_of_add_right_le hBt)) su)) ?_
 refine .st (.a (fN x.hold c)) (ln hc) ?_
 refine .st (.i (2*L:Nat)) (And.intro (by push_cast;rfl:(2:Int)*(L:Nat)=(2*L:Nat)) (an (by rfl:za3 2=true) (sm l2 hBt))) ?_
 refine .st (.i ((num x.hold c+2*L)*u:Nat)) (And.intro (by rw [hu];push_cast;rfl:((num x.hold c:Nat)+(2*L:Nat):Int)*unI x.c0=((num x.hold c+2*L)*u:Nat)) (an (sm l3 hBs) su)) ?_
 refine .st (.i (u/3:Nat)) (And.intro (by rw [hu];exact ztw u:(unI x.c0).fdiv 3=(u/3:Nat)) (by rw [hu];exact gbp3 u:((3:Int) != 0 && !Builtin.divisionGoesByPylong (unI x.c0) 3)=true)) ?_
 have hq:(-1-(((num x.hold c+2*L)*u:Nat)+(u/3:Nat):Int))/(L:Int) = -((2*u+num x.hold c/Q+1:Nat):Int):=by
  have:=zpA (C:=num x.hold c) u1 Q1
  rw [←hL] at this
  exact this
 have tl:=zoe hC uL L1
 have bL:zaC L≤B1+6001:=zeC l2
 have bL1:1≤zaC L:=Nat.pos_of_ne_zero fun z=>absurd (by have:=zdf L;rwa [z] at this:L<2^0) (Nat.not_lt.mpr L1)
 have CD:=fun {h:Hp} {K:AV→Hp→Prop}=>zmX (P:=P.lv 4) (h:=h) (K:=K) (lvB B 4) (-1-(((num x.hold c+2*L)*u:Nat)+(u/3:Nat):Int)) L L1 (lT bL (lT hBt (by decide))) (fun y hy=>by
  obtain rfl:y=znd (num x.hold c) u L:=zsQ hy (Int.natCast_nonneg _) (Int.natCast_nonneg _) rfl
  exact ⟨lT tl (lT (Nat.add_le_add_right (Nat.mul_le_mul_left 2 (lT bL hBt)) 17) (by decide)),Nat.div_le_of_le_mul (zth tl bL1)⟩)
 have hr:=Int.mul_ediv_add_emod (-1-(((num x.hold c+2*L)*u:Nat)+(u/3:Nat):Int)) (L:Int)
 have r0:=Int.emod_nonneg (-1-(((num x.hold c+2*L)*u:Nat)+(u/3:Nat):Int)) (b:=(L:Int)) (Int.ofNat_ne_zero.mpr (Nat.ne_of_gt L1))
 have r1:=Int.emod_lt_of_pos (-1-(((num x.hold c+2*L)*u:Nat)+(u/3:Nat):Int)) (b:=(L:Int)) (Int.natCast_pos.mpr L1)
 rw [hq] at hr CD
 generalize (-1-(((num x.hold c+2*L)*u:Nat)+(u/3:Nat):Int))%(L:Int)=r at hr r0 r1 CD
 have hM:2*u+num x.hold c/Q+1<2^(6001+2):=by
  have h1:65536≤2^6001:=lT (by decide:65536≤2^16) (pR (by decide) (by decide))
  have h2:num x.hold c/Q≤num x.hold c:=Nat.div_le_self ..
  rw [Nat.pow_add 2 6001 2]
  exact lt5 u2 (lE h2 (lL hC h1))
 have e5:(!(-((2*u+num x.hold c/Q+1:Nat):Int)*(L:Int)+r == -1-(((num x.hold c+2*L)*u:Nat)+(u/3:Nat):Int)))=false:=by rw [Int.mul_comm,hr,beq_self_eq_true];rfl
 refine (let ww:Wt:=_;(?_:Sm _ ww))
 refine .callP CD (.st (.i (-((2*u+num x.hold c/Q+1:Nat):Int)*(L:Int))) (And.intro rfl (an (zax (k:=6001+2) (by rw [Int.natAbs_neg,Int.natAbs_natCast];exact hM) (by decide)) (sm l2 hBt)): -((2*u+num x.hold c/Q+1:Nat):Int)*(L:Int) = -((2*u+num x.hold c/Q+1:Nat):Int)*(L:Int)∧(za3 (-((2*u+num x.hold c/Q+1:Nat):Int))&&za3 (L:Int))=true) (.st (.b false) e5 (.st (.b false) (decide_eq_false (Int.not_lt.mpr r0):decide (r<0)=false) (.st (.b false) (decide_eq_false (Int.not_le.mpr r1):decide ((L:Int)≤r)=false) (.ff ?_)))))
 refine .st (.i ((2*u+num x.hold c/Q+1)%2:Nat)) (And.intro zmD rfl:Int.fmod (-((2*u+num x.hold c/Q+1:Nat):Int)) 2=((2*u+num x.hold c/Q+1)%2:Nat)∧((2:Int) != 0)=true) ?_
 refine .st (.a (fB x.hold 5 d)) (lf hd5) ?_
 refine .st (.ls ((x.hold c).map (za5 x.hold 5))) (by rw [List.map_map,List.map_map];rfl:((x.hold c).map fun m=>SV.str (za5 x.hold 5 m)).map SV.av=((x.hold c).map (za5 x.hold 5)).map AV.str) ?_
 refine .st (.b false) (zgS (even_odd.trans (hb.trans (zpU _ _).symm)):(!(((((2*u+num x.hold c/Q+1)%2:Nat):Int)==0)==((x.hold c).map (za5 x.hold 5)).any (· == za5 x.hold 5 d)))=false) ?_
 exact .next 61 (zsb x c j o) (fun X X=>True) k () (.tm 1 (("unit", .int (unI x.c0)) :: ("page", .ref 22) :: ("holds", .ref 37) :: ("ended",d34 x) :: [("name",oneS c),("members",zti x c)]) zo2) trivial
end
noncomputable def zm8(N c:Int)(m k:Nat):Int:=Nat.casesOn (motive:=fun X=>Int) k (Builtin.Range.rangeSize 0 N c) fun k=>(m:Int)-(k+1:Nat)
theorem zm7{N c:Int}{m:Nat}(hn:Builtin.Range.rangeSize 0 N c=m)(k:Nat):zm8 N c m k=(m:Int)-k:=by
 induction k using Nat.casesOn with
 | zero=>exact hn.trans (Int.sub_zero _).symm
 | succ k=>rfl
noncomputable def xC(c:Int)(k:Nat):Int:=Nat.casesOn (motive:=fun X=>Int) k 0 fun k=>0+((k+1:Nat):Int)*c
theorem zsL(c:Int)(k:Nat):xC c k=0+(k:Int)*c:=by
 induction k using Nat.casesOn with
 | zero=>exact ((congrArg (0 + ·) (Int.zero_mul c)).trans (Int.add_zero 0)).symm
 | succ k=>rfl
theorem Sm.loopT{T:Tabs}{P:PM T}{w:Wt}{ι:Type}(B:Tbl T P.c)(n m:Nat)(c:Int)(H:ι→Nat→Hp)(R:ι→Nat→Prop)(i0:ι)(wk:Wk w.hp (H i0 0))(h0:R i0 0){N:Int}(hn:Builtin.Range.rangeSize 0 N c=m)(hl:∀i k,R i k→Nat.blt w.git (H i k).nx=true∧(H i k).at_ w.git = .riter (xC c k) (zm8 N c m k) c)
  (hb:∀i (k:Nat),k<m→R i k→Sm P (w.tw P (On1 (Iv H R) n k) (.int (0+k*c)) ((H i k).set w.git (.riter (0+((k+1:Nat):Int)*c) (zm8 N c m (k+1)) c)))) (he:∀i,R i m→Sm P (w.kh ((H i m).set w.git .other))) (g0:autoParam ((w.isG,(H i0 0).nx,w.hp.nx)=(true,n,n)) Mine.kr1):Sm P w:=
 zrf B n (zdG (a:=0) (c:=c) (m:=m)) H R i0 wk h0 (fun i k r=>zm7 hn k▸zsL c k▸hl i k r) hb he g0
theorem zgF{M w:Nat}(hw:1≤w):Builtin.Range.rangeSize 0 M w=((M+w-1)/w:Nat):=by
 rw [PyProof.Rows.rangeSize_pos (by lia) (by lia)]
 have:(M:Int)+(w:Int)-1=((M+w-1:Nat):Int):=(Int.ofNat_sub (lT hw (Nat.le_add_left ..))).symm
 rw [this];rfl
theorem zsu{n:Nat}(h:n<100200): -2^63≤(n:Int)∧(n:Int)<2^63:=⟨Int.le_trans (by decide) (Int.natCast_nonneg n),Int.lt_of_lt_of_le (Int.ofNat_lt.mpr h) (by decide)⟩
theorem gl0{M w q:Nat}(hw:1≤w)(h:M+w-1<q+w):M≤q:=by omega
theorem zj8{M w:Nat}(hw:1≤w)(hw2:w≤100)(hM:M≤100000):Builtin.Range.small 0 M w=true:=by
 have hG:(M+w-1)/w≤M+w-1:=Nat.div_le_self ..
 unfold Builtin.Range.small
 rw [zgF hw]
 have h1:(w:Int)>0:=Int.natCast_pos.mpr hw
 simp only [h1,if_true,Builtin.Range.rangeFitsLong,Bool.and_eq_true,Bool.or_eq_true,decide_eq_true_eq,beq_iff_eq]
 generalize (M+w-1)/w=G at hG
 have hX:M+(w-1)<100200:=lE (jD hM (lT (Nat.sub_le ..) hw2)) (by decide)
 exact ⟨⟨⟨⟨⟨by decide,by decide⟩,zsu (lE hM (by decide))⟩,zsu (lE hw2 (by decide))⟩,zsu (lE hG (Nat.add_sub_assoc hw M▸hX))⟩, .inr (congrArg ((M:Int) + ·) (Int.ofNat_sub hw)▸zsu hX)⟩
def zat(x:L34)(c:Nat):List Nat:=(x.hold c).map (num x.hold)
def zeE(x:L34)(c:Nat):List SV:=(zat x c).map fun (v:Nat)=>SV.int (v:Int)
def onI(x:L34)(c:Nat):List Int:=(zaz (zat x c)).map fun (v:Nat)=>(v:Int)
def zju(x:L34)(c:Nat):List SV:=(onI x c).map SV.int
def zsx(x:L34)(c:Nat)(i:Option Int):List AO:=[.cell (some (.lst (zeE x c))), .cell (some (.lst (zju x c))), .cell (i.map .int)]
def zqc(x:L34)(c j:Nat)(i:Option Int)(k:Nat):Hp:= .of (x.N [("name",oneS c)] (zsx x c i) ++ [.liter (d34 x) (j+1), .other, .other, .other, .other, .other, .other, .other, .other, .other, .other, .other, .other, .other, .list false [.int 1, .int 3], .liter (.ref 70) k])
theorem zs9{x:L34}{c j:Nat}{i:Option Int}{k:Nat}:(zqc x c j i k).okB=true:=by induction i <;> kernel_rfl
def Rw(i:Option Int)(k:Nat):Prop:=0<k→∃v,i=some v
def w34w(Q:PM T3)(x:L34)(c w j:Nat)(i:Option Int)(k:Nat)(K:Fl→Hp→Wt):Wt:=zfM Q zq7 (zig zsf) (zeF zsf) (On1 (Iv (zqc x c j) Rw) 72 k) K (.int (w:Nat)) ((zqc x c j i k).set 71 (.liter (.ref 70) (k+1)))
noncomputable def gV(s:List Nat):AV:= .lst (s.map fun (y:Nat)=>SV.int (y:Int))
def ztU(x:L34)(c j w k:Nat):List AO:=x.N [("name",oneS c)] (zsx x c (some (w:Nat))) ++ [.liter (d34 x) (j+1), .other, .other, .other, .other, .other, .other, .other, .other, .other, .other, .other, .other, .other, .list false [.int 1, .int 3], .liter (.ref 70) (k+1)]
def zdE(x:L34)(c:Nat):Nat:=((zju x c).map SV.av).length
def zuS(x:L34)(c j w k G:Nat)(acc:List AV)(s:Nat):Hp:= .of (ztU x c j w k ++ [.range 0 (zdE x c:Nat) w, .riter (xC w s) (zm8 (zdE x c:Nat) w G s) w, .list false acc, .frame []])
def zt2(x:L34)(c w s:Nat):List AV:=zaF ((zju x c).map SV.av) (some (0+(s:Int)*w)) (some (0+(s:Int)*w+w)) none
def zss(x:L34)(c w s:Nat):List Nat:=((zaz (zat x c)).drop (s*w)).take w
theorem zop(x:L34)(c w s:Nat):zt2 x c w s=((zss x c w s).map fun (y:Nat)=>SV.int (y:Int)).map SV.av:=by
 have e0:(0+(s:Int)*(w:Int))=((s*w:Nat):Int):=Int.zero_add _
 have e1:((s*w:Nat):Int)+(w:Int)=((s*w+w:Nat):Int):=rfl
 unfold zt2 zss
 rw [e0,e1,zdu,Nat.add_sub_cancel_left,zju,onI,List.map_map,List.map_map,←List.map_drop,←List.map_take,List.map_map];rfl
def zuT(x:L34)(c j w k G:Nat)(acc:List AV)(s:Nat):Hp:= .of (ztU x c j w k ++ [.other, .other, .list false ((grp w (zaz (zat x c)) G).map gV), .other, .liter (.ref 74) s, .list false acc, .frame []])
noncomputable def pw2(t y:Nat):Int:=(y:Int)*2^t
theorem ziX{t:Nat}(h:t<3):za3 (2^t)=true:=(by decide:∀t,t<3→za3 (2^t)=true) t h
theorem zpi{w G:Nat}{l g:List Nat}(hw:w≤3)(h:g∈grp w (zaz l) G):g.length≤3∧∀y∈g,y≤1:=by
 obtain ⟨j,X,rfl⟩:=mP h
 exact ⟨lT (List.length_take_le ..) hw,fun y hy=>zc4 l y (List.mem_of_mem_drop (List.mem_of_mem_take hy))⟩
def zuM(x:L34)(c j w k G:Nat)(acc:List AV)(s:Nat)(g:List Nat)(acc2:List AV)(t:Nat):Hp:= .of (ztU x c j w k ++ [.other, .other, .list false ((grp w (zaz (zat x c)) G).map gV), .other, .liter (.ref 74) (s+1), .list false acc, .frame [], .liter (gV g) t, .enumr 79 t, .list false acc2, .frame []])
section
variable {P:PM T3}
set_option maxHeartbeats 4000000 in
theorem zpJ(B:Tbl T3 P.c)(x:L34)(c w j k:Nat)(i:Option Int)(K:Fl→Hp→Wt)(hc:c∈zac x.hold)(hm:∀c∈names5,∀m∈x.hold c,m∈names5)(hw:1≤w)(hw2:w≤3)(mb:mxL (zat x c)≤65536):Sm (P.lv 19) (w34w (P.lv 19) x c w j i k K):=by
 have B':=lvB B 19
 obtain ⟨hc5,hcE⟩:=zdO hc
 have ol:zdE x c=mxL (zat x c):=by rw [zdE,zju,onI,List.length_map,List.length_map,List.length_map,zbN]
 have lb:zdE x c≤65536:=ol▸mb
 obtain ⟨G,hG⟩:∃G,G=(zdE x c+w-1)/w:=⟨_,rfl⟩
 have Gl:G≤zdE x c+w-1:=hG▸Nat.div_le_self ..
 have Gh:G≤65538:=lT Gl (Nat.sub_le_of_le_add (lT (jD lb hw2) (by decide)))
 have rs:Builtin.Range.rangeSize 0 (zdE x c:Nat) (w:Nat)=(G:Nat):=hG▸zgF hw
 refine (let ww:Wt:=_;(?_:Sm _ ww))
 refine .st .o (bt (b:=sizeL) (lT lb (by decide):zdE x c≤sizeL)) (.st .o (an (bne_iff_ne.mpr (Int.ofNat_ne_zero.mpr (Nat.ne_of_gt hw))) (Bool.not_eq_true' _▸zd5 (by rw [Int.natAbs_natCast];exact lE hw2 (by decide))):(((w:Nat):Int) != 0 && !Builtin.divisionGoesByPylong ((zdE x c:Nat)-0) (w:Nat))=true) ?_)
 refine .st .o (zj8 hw (lT hw2 (by decide)) (lT lb (by decide)):Builtin.Range.small 0 (zdE x c:Nat) (w:Nat)=true) ?_
 refine .loopT B' 76 G w (zuS x c j w k G) (fun acc s=>acc=(grp w (zaz (zat x c)) s).map gV) [] (.msk 1 (("unit", .int (unI x.c0)) :: ("page", .ref 22) :: ("holds", .ref 37) :: ("ended",d34 x) :: [("name",oneS c)])) rfl rs (fun X X X=>⟨by kernel_rfl,by kernel_rfl⟩) ?_ ?_
 ·intro acc s hs rk
  refine (let ww:Wt:=_;(?_:Sm _ ww))
  exact .ok (.st .o (bt (b:=sizeL) (lT lb (by decide):zdE x c≤sizeL)) (.froz 76 ((zss x c w s).map fun (y:Nat)=>SV.int (y:Int)) (.st .o (an (bt (by rw [rk,grp,List.length_map,List.length_map,List.length_range];exact lT hs (lT Gl (lT (Nat.sub_le _ _) (lT (jD lb hw2) (by decide))))):Nat.ble acc.length.succ sizeL=true) (rfl:(false || true)=true)) (.next 76 (zuS x c j w k G) (fun acc s=>acc=(grp w (zaz (zat x c)) s).map gV) s (acc ++ [gV (zss x c w s)]) (.to 75 []) (by rw [rk,grp,grp,List.range_succ,List.map_append,List.map_append];rfl))) (e2:=Eq.trans (b:=AO.list false (zt2 x c w s)) (by kernel_rfl) (congrArg (AO.list false) (zop x c w s)))))
 intro acc rk
 obtain rfl:acc=(grp w (zaz (zat x c)) G).map gV:=rk
 refine (let ww:Wt:=_;(?_:Sm _ ww))
 refine .asIs ?_
 refine .loopM B' 79 (zam (q:=(false,(grp w (zaz (zat x c)) G).map gV)) (v:= .ref 74)) (zuT x c j w k G) (Mp1 (fun s=>AV.int (nvl s:Nat)) (grp w (zaz (zat x c)) G)) [] (.msk 1 (("unit", .int (unI x.c0)) :: ("page", .ref 22) :: ("holds", .ref 37) :: ("ended",d34 x) :: [("name",oneS c)])) rfl (fun X X X=>⟨by kernel_rfl,by kernel_rfl,by kernel_rfl⟩) ?_ ?_
 ·intro acc s g eg rk
  obtain ⟨g1,g2⟩:=zpi hw2 (mG eg)
  refine (let ww:Wt:=_;(?_:Sm _ ww))
  refine .loop B' 83 (zf7 (q:=(false,(g.map fun (y:Nat)=>SV.int (y:Int)).map SV.av)) (v:=gV g) (j:=79) (ys:=g.map fun (y:Nat)=>SV.int (y:Int)) rfl) (zuM x c j w k G acc s g) (fun acc2 t=>acc2=((g.take t).mapIdx pw2).map AV.int) [] (.to 78 []) rfl (fun X X X=>⟨by kernel_rfl,by kernel_rfl,by kernel_rfl,by kernel_rfl⟩) ?_ ?_
  ·intro acc2 t x' ex r2
   obtain ⟨y,hy,rfl⟩:∃y:Nat,g[t]? = some y∧x'=zte t (.int (y:Nat)):=by
    rw [List.getElem?_mapIdx,List.getElem?_map] at ex
    induction q:g[t]? with
    | none=>rw [q] at ex;exact nomatch ex
    | some b=>rw [q] at ex;exact ⟨b,rfl,(sI ex).symm⟩
   have t3:t<3:=lL (gE hy).1 g1
   have y1:=g2 y (mG hy)
   have tl:(g.take t).length=t:=by rw [List.length_take];exact Nat.min_eq_left (lO (gE hy).1)
   refine (let ww:Wt:=_;(?_:Sm _ ww))
   refine .st (.i (2^t)) (And.intro (by rw [Int.toNat_natCast]) (an (an (dT (Int.natCast_nonneg _)) (dT (Int.ofNat_le.mpr (lO (Nat.lt_trans t3 (by decide))):(t:Int)≤((100000:Nat):Int)))) (by decide)):(2:Int)^(t:Int).toNat=2^t∧(decide (0≤(t:Int))&&decide ((t:Int)≤100000)&&decide ((2:Int).natAbs<2^64))=true) (.st (.i (pw2 t y)) (And.intro rfl (an (zaI (lT y1 (by decide))) (ziX t3)):(y:Int)*2^t=pw2 t y∧(za3 (y:Int)&&za3 (2^t))=true) (.asIs (.st .o (an (bt (by rw [r2,List.length_map,List.length_mapIdx,tl];exact lT t3 (by decide)):Nat.ble acc2.length.succ sizeL=true) (rfl:(false || true)=true)) (.next 83 (zuM x c j w k G acc s g) (fun acc2 t=>acc2=((g.take t).mapIdx pw2).map AV.int) t (acc2 ++ [.int (pw2 t y)]) (.to 82 []) ?_))))
   rw [r2,List.take_succ,hy]
   show _=((g.take t ++ [y]).mapIdx pw2).map AV.int
   rw [List.mapIdx_concat,List.map_append,tl];rfl
  intro acc2 r2
  rw [List.length_mapIdx,List.length_map,List.take_length] at r2
  refine (let ww:Wt:=_;(?_:Sm _ ww))
  refine .asIs (.st (.li (g.mapIdx pw2)) r2 ?_)
  exact .asIs (.st .o (an (rk.len (n:=sizeL) (by rw [grp,List.length_map,List.length_range];exact lE Gl (lE (Nat.sub_le _ _) (lE (jD lb hw2) (by decide))))) (rfl:(false || true)=true)) (.next 79 (zuT x c j w k G) (Mp1 (fun s=>AV.int (nvl s:Nat)) (grp w (zaz (zat x c)) G)) s (acc ++ [.int (g.mapIdx pw2).sum]) (.to 78 []) (zlr g▸rk.next eg)))
 intro acc rk
 obtain ⟨D,hD⟩:∃D,D=(grp w (zaz (zat x c)) G).map fun s=>(nvl s:Int):=⟨_,rfl⟩
 obtain rfl:acc=(D.map SV.int).map SV.av:=rk.all.trans (by rw [hD,List.map_map,List.map_map];rfl)
 have hN:num x.hold c=zaN (zat x c):=zjD hm hc5 hcE
 have bl:zaC (num x.hold c)=zdE x c:=by rw [hN,zkS,ol]
 have nd:zcR w (num x.hold c)=G:=by rw [zcR,bl,hG]
 have C1:=zrV (P:=P) B 17 (num x.hold c) w hw (by rw [nd];exact lT Gh (by decide)) (by rw [bl];exact lT (jD lb hw2) (by decide))
 rw [nd,show dig w (num x.hold c) G=D by rw [hD,hN];exact zkr w G _ (zc4 _)] at C1
 have C2:=fun {h:Hp} {K:AV→Hp→Prop}=>zmZ (P:=P) (h:=h) (K:=K) B 17 D w w hw (by rw [hD,List.length_map,grp,List.length_map,List.length_range];exact lT Gh (by decide)) (fun d hd=>by
  rw [hD] at hd
  obtain ⟨g,hg,rfl⟩:=mP hd
  obtain ⟨j,X,rfl⟩:=mP hg
  exact lO (zcO fun d hd=>zc4 _ d (List.mem_of_mem_drop hd))) (by rw [hD,List.length_map,grp,List.length_map,List.length_range];exact lT (jD hw2 (Nat.mul_le_mul hw2 Gh)) (by decide))
 have gl:(zaz (zat x c)).length≤w*G:=by
  rw [zbN,←ol,hG]
  have:=Nat.lt_mul_div_succ (zdE x c+w-1) hw
  rw [Nat.mul_add,Nat.mul_one] at this;exact gl0 hw this
 rw [show zbr w D=(num x.hold c:Nat) by rw [hD,hN];exact zho w G _ gl] at C2
 have ln:=fun {c}=>zm2 (fN x.hold) (l:=zac x.hold) (c:=c)
 have De:(D.map SV.int).map SV.av=D.map AV.int:=by rw [List.map_map];rfl
 refine (let ww:Wt:=_;(?_:Sm _ ww))
 refine .froz 77 (D.map SV.int) (.st (.a (fN x.hold c)) (ln hc) (.callD C1 [] (.st (.num D D) (And.intro rfl De:D.map AV.int=D.map AV.int∧(D.map SV.int).map SV.av=D.map AV.int) (.st (.b false) (by rw [beq_self_eq_true];rfl:(!(D==D))=false) ?_))))
 refine .callP C2 ?_
 refine .st (.a (fN x.hold c)) (ln hc) ?_
 refine .st (.b false) (by rw [beq_self_eq_true];rfl:(!(((num x.hold c:Nat):Int)==(num x.hold c:Nat)))=false) ?_
 refine .ff ?_
 exact .next 72 (zqc x c j) Rw k (some (w:Nat)) (.tm 1 (("unit", .int (unI x.c0)) :: ("page", .ref 22) :: ("holds", .ref 37) :: ("ended",d34 x) :: [("name",oneS c)]) zs9) fun X=>⟨_,rfl⟩
end
def fr0(x:L34)(l:List (Str×AV)):List (Str×AV):=("unit", .int (unI x.c0)) :: ("page", .ref 22) :: ("holds", .ref 37) :: ("ended",d34 x) :: l
def zsC(x:L34)(o:Cs)(j:Nat):Hp:= .of (x.N [] (cs3 o) ++ [.liter (d34 x) j])
def w34n(Q:PM T3)(x:L34)(c j:Nat)(o:Cs)(K:Fl→Hp→Wt):Wt:=zfM Q zq7 (zig zq5) (zeF zq5) (On1 (Iv (zsC x) fun X X=>True) 57 j) K (oneS c) ((zsC x o j).set 56 (.liter (d34 x) (j+1)))
def zu2(x:L34)(c j:Nat)(o:Cs)(acc:List AV)(i:Nat):Hp:= .of (x.N [("name",oneS c)] (cs3 o) ++ [.liter (d34 x) (j+1), .siter (x.hold c) i, .list false acc, .frame []])
theorem zo1{x:L34}{c j:Nat}{o:Cs}{acc:List AV}{i:Nat}:(zu2 x c j o acc i).okB=true:=by induction o <;> kernel_rfl
def zu1(x:L34)(c j:Nat)(o:Cs)(acc:List AV)(i:Nat):Hp:= .of (x.N [("name",oneS c)] (cs3 o) ++ [.liter (d34 x) (j+1), .other, .other, .other, .other, .siter (x.hold c) i, .list false acc, .frame []])
theorem zo0{x:L34}{c j:Nat}{o:Cs}{acc:List AV}{i:Nat}:(zu1 x c j o acc i).okB=true:=by induction o <;> kernel_rfl
def cv34(x:L34)(c:Nat)(o:Cs):List AO:=[.cell (some (.lst (zeE x c))), .cell (o.map fun a=> .lst a.2.1), .cell (o.map fun a=> .int a.2.2)]
def zsB(x:L34)(c j:Nat)(o:Cs)(N:Int)(acc:List AV)(k:Nat):Hp:= .of (x.N [("name",oneS c)] (cv34 x c o) ++ [.liter (d34 x) (j+1), .other, .other, .other, .other, .other, .other, .other, .other, .other, .range 0 N 1, .riter (0+(k:Int)*1) (zg8 N (mxL (zat x c)) k) 1, .list false acc, .frame []])
theorem zl8{x:L34}{c j:Nat}{o:Cs}{N:Int}{acc:List AV}{k:Nat}:(zsB x c j o N acc k).okB=true:=by induction o <;> kernel_rfl
noncomputable def zno(l:List Nat)(p:Nat):AV:= .int (if l.contains p then 1 else 0)
def nqI(x:L34)(c:Nat):List Int:=(zat x c).map fun (v:Nat)=>(v:Int)
def zsa(x:L34)(c j:Nat)(o:Cs):Hp:= .of (x.N [("name",oneS c)] [.cell (some (.lst (zeE x c))), .cell (some (.lst (zju x c))), .cell (o.map fun a=> .int a.2.2)] ++ [.liter (d34 x) (j+1), .other, .other, .other, .other, .other, .other, .other, .other, .other, .other, .other, .other, .other, .list false [.int 1, .int 3], .liter (.ref 70) 0])
theorem zq1{x:L34}{c j:Nat}{o:Cs}:(zsa x c j o).okB=true:=by induction o <;> kernel_rfl
theorem zq0{x:L34}{c j:Nat}{o:Cs}:zqc x c j (o.map fun a=>a.2.2) 0=zsa x c j o:=by induction o <;> rfl
def zuQ(x:L34)(c j:Nat)(v:Int)(acc:List AV)(k:Nat):Hp:= .of (x.N [("name",oneS c)] (zsx x c (some v)) ++ [.liter (d34 x) (j+1), .other, .other, .other, .other, .other, .other, .other, .other, .other, .other, .other, .other, .other, .other, .other, .range 0 (zdE x c:Nat) 1, .riter (0+(k:Int)*1) (zg8 (zdE x c:Nat) (mxL (zat x c)) k) 1, .list false acc, .frame []])
def zuP(x:L34)(c j:Nat)(v:Int)(acc:List AV)(k:Nat):Hp:= .of (x.N [("name",oneS c)] (zsx x c (some v)) ++ [.liter (d34 x) (j+1), .other, .other, .other, .other, .other, .other, .other, .other, .other, .other, .other, .other, .other, .other, .other, .other, .other, .other, .other, .liter (.lst (zeE x c)) k, .list false acc, .frame []])
def ctI(x:L34)(c:Nat):List Int:=((List.range (mxL (zat x c))).map fun p=>(zat x c).count p).map fun (v:Nat)=>(v:Int)
noncomputable def cnQ(l:List Nat)(p:Nat):AV:= .int ((l.map fun (v:Nat)=>(v:Int)).count (p:Int):Nat)
theorem ziq(l:List Nat)(p:Nat):(l.map fun (v:Nat)=>(v:Int)).count (p:Int)=l.count p:=by
 induction l with
 | nil=>rfl
 | cons x l ih=>rw [List.map_cons,List.count_cons,List.count_cons,ih,zhw]
theorem zls(l:List Nat):(l.map fun (x:Nat)=>(x:Int)).sum=((l.sum:Nat):Int):=by
 induction l with
 | nil=>rfl
 | cons x l ih=>rw [List.map_cons,List.sum_cons,List.sum_cons,ih];push_cast;rfl
theorem zqr(c0:Nat):∃u:Nat,unI c0=u∧1≤u∧u<2^6001:=by
 have pl:c0/100%12000<12000:=mT _ (by decide)
 unfold unI
 generalize c0/100%12000=p at pl
 have h2:2≤2^(1+p/2):=by
  rw [Nat.pow_add]
  exact Nat.le_mul_of_pos_right 2 (Nat.two_pow_pos _)
 have h3:2^(1+p/2)<2^6001:=Nat.pow_lt_pow_right (by decide) (Nat.add_comm 1 _▸Nat.succ_lt_succ (Nat.div_lt_of_lt_mul pl:p/2<6000))
 have hm:p%2<2:=mT _ (by decide)
 generalize 2^(1+p/2)=Q at h2 h3
 exact ⟨Q-p%2,by lia,Nat.le_sub_of_add_le (lT (Nat.add_le_add_left (Nat.le_of_lt_succ hm) 1) h2),lE (Nat.sub_le _ _) h3⟩
noncomputable def endW:List (List Nat):=[[10],[],[122,10],[122],[]]
def zpt(k:Nat):List Nat:=tailT.drop ([0,3,5,9,12,12].getD k 12)
noncomputable def zq9(k:Nat):Nat:=[5,6,6,7,7,7].getD k 7
theorem zps:∀k w,endW[k]? = some w→zdF (zq9 k) (zpt k)=(w,zpt (k+1),zq9 (k+1))
 | 0,w,h | 1,w,h | 2,w,h | 3,w,h | 4,w,h=>by cases h;rfl
 | k+5,w,h=>no h
theorem zpr(cr:List Nat)(k:Nat):zaf cr++tailT=(zaf cr++tailT.take ([0,3,5,9,12,12].getD k 12))++zpt k:=by
 rw [List.append_assoc,zpt,List.take_append_drop]
def zuK(x:L34)(acc:List AV)(k:Nat):Hp:= .of (.flist x.vs 0 x.is :: .frame [("page", .ref 22)] :: .other :: .other :: .cell (some (.ref 24)) :: (List.replicate 17 .other++(ztl x.T (pos x.T (zpt k)) (zq9 k) []++(List.replicate 26 .other ++ [.range 0 5 1, .riter (0+(k:Int)*1) (((5:Nat):Int)-k) 1, .list false acc, .frame []]))))
section
variable {P:PM T3}
set_option maxHeartbeats 4000000 in
theorem zrT(B:Tbl T3 P.c)(x:L34)(c j u:Nat)(o:Cs)(K:Fl→Hp→Wt)(hc:c∈zac x.hold)(h7:x.cr.length=7)(hu:unI x.c0=u)(u1:1≤u)(u2:u<2^6001):Sm (P.lv 19) (w34n (P.lv 19) x c j o K):=by
 have B':=lvB B 19
 have BL:=lvB B
 obtain ⟨hc5,hcE⟩:=zdO hc
 have hm:∀c∈names5,∀m∈x.hold c,m∈names5:=fun c X=>zaE x.cr c
 have hl:=zbk h7 c
 have mE:∀m∈x.hold c,m∈zac x.hold:=fun m h=>List.mem_filter.mpr ⟨hm c hc5 m h,by
  rw [show (za1 x.hold 5).contains m=false from Bool.eq_false_iff.mpr fun z=>hcE ((zh0 hc5).mpr ⟨m,h,List.contains_iff_mem.mp z⟩)];rfl⟩
 have lh:zar (dL (fH x.hold) 5) [c]=some (fH x.hold c):=zby x.hold .str c hc5
 have ln:=fun {c}=>zm2 (fN x.hold) (l:=zac x.hold) (c:=c)
 have lf:∀{c},c∈names5→zar (dL (fB x.hold 5) 5) [c]=some (fB x.hold 5 c):=fun {c} h=>zby (za5 x.hold 5) .str c h
 refine (let ww:Wt:=_;(?_:Sm _ ww))
 refine .st (.a (fH x.hold c)) lh (.loopM B' 60 (za2 (z:=x.hold c)) (zu2 x c j o) (Mp1 (fB x.hold 5) (x.hold c)) [] (.tm 1 (fr0 x [("name",oneS c)]) zo1) rfl (fun X X X=>⟨by kernel_rfl,by kernel_rfl⟩) ?_ ?_)
 ·intro acc i m em rk
  refine (let ww:Wt:=_;(?_:Sm _ ww))
  exact .st (.a (fB x.hold 5 m)) (lf (hm c hc5 m (mG em))) (.asIs (.st .o (an (rk.len (n:=sizeL) (lE hl (by decide))) (rfl:(false || true)=true)) (.next 60 (zu2 x c j o) (Mp1 (fB x.hold 5) (x.hold c)) i (acc ++ [fB x.hold 5 m]) (.tob 59 [] zo1) (rk.next em))))
 intro acc rk
 obtain rfl:acc=((x.hold c).map fun m=>SV.str (za5 x.hold 5 m)).map SV.av:=rk.all.trans (by rw [List.map_map];rfl)
 refine (let ww:Wt:=_;(?_:Sm _ ww))
 refine .froz 58 ((x.hold c).map fun m=>SV.str (za5 x.hold 5 m)) (.loopM (z:=zac x.hold) (f:=oneS) B' 61 (zaM (q:=(false,((zac x.hold).map zdi).map SV.av)) (v:=d34 x) (by rw [List.map_map];rfl)) (zsb x c j o) (fun X X=>True) () (.tm 1 (fr0 x [("name",oneS c),("members",zti x c)]) zo2) trivial (fun X X X=>⟨by kernel_rfl,by kernel_rfl,by kernel_rfl⟩) (fun X k d ed X=> .viaK zq7 (zig zsl) (zeF zsl) _ fun K=>zpK B x c d j k u o K hc (mG ed) hm hu u1 u2) ?_)
 intro X Z
 refine (let ww:Wt:=_;(?_:Sm _ ww))
 refine .st (.a (fH x.hold c)) lh (.loopM B' 64 (za2 (z:=x.hold c)) (zu1 x c j o) (Mp1 (fN x.hold) (x.hold c)) [] (.tm 1 (fr0 x [("name",oneS c)]) zo0) rfl (fun X X X=>⟨by kernel_rfl,by kernel_rfl⟩) ?_ ?_)
 ·intro acc i m em rk
  refine (let ww:Wt:=_;(?_:Sm _ ww))
  exact .st (.a (fN x.hold m)) (ln (mE m (mG em))) (.asIs (.st .o (an (rk.len (n:=sizeL) (lE hl (by decide))) (rfl:(false || true)=true)) (.next 64 (zu1 x c j o) (Mp1 (fN x.hold) (x.hold c)) i (acc ++ [fN x.hold m]) (.tob 63 [] zo0) (rk.next em))))
 intro acc rk
 obtain rfl:acc=(zeE x c).map SV.av:=rk.all.trans (by rw [zeE,zat,List.map_map,List.map_map];rfl)
 have hl2:(zeE x c).length≤21:=by rw [zeE,zat,List.length_map,List.length_map];exact hl
 have ei:AV.int (-1) :: (zeE x c).map SV.av=(-1 :: nqI x c).map AV.int:=congrArg (AV.int (-1) :: ·) (by rw [zeE,nqI,List.map_map,List.map_map];rfl)
 have em:zso (-1 :: nqI x c)=some ((mxL (zat x c):Int)-1):=by
  have:=zjL (zat x c)
  show some (List.foldl max (-1) (nqI x c))=_
  rw [←this,nqI];congr 1;lia
 have nb:∀v∈zat x c,v<65536:=fun v hv=>by
  obtain ⟨m,hm',rfl⟩:=mP hv
  obtain ⟨m5,mE5⟩:=zdO (mE m hm')
  exact zcQ hm m5 mE5
 have mb:mxL (zat x c)≤65536:=zdC nb
 have hN:(1:Int)+((mxL (zat x c):Int)-1)=(mxL (zat x c):Nat):=(Int.add_comm 1 _).trans (Int.sub_add_cancel _ 1)
 refine (let ww:Wt:=_;(?_:Sm _ ww))
 refine .froz 62 (zeE x c) (.tt (.st .o (bt (b:=sizeL) (by rw [List.length_map];exact lT (Nat.add_le_add_left hl2 1) (by decide): [AV.int (-1)].length+((zeE x c).map SV.av).length≤sizeL)) (.st (.li (-1 :: nqI x c)) ei (.st (.i ((mxL (zat x c):Int)-1)) em (.st .o (by rw [hN];exact zcy (lT mb (by decide)):Builtin.Range.small 0 (1+((mxL (zat x c):Int)-1)) 1=true) ?_)))))
 refine .loopS B' 70 (mxL (zat x c)) (zsB x c j o (1+((mxL (zat x c):Int)-1))) (fun acc k=>acc=(List.range k).map (zno (zat x c))) [] (.tm 1 (fr0 x [("name",oneS c)]) zl8) rfl hN (fun X X X=>⟨by kernel_rfl,by kernel_rfl⟩) ?_ ?_
 ·intro acc k hk rk
  have l1:Nat.ble acc.length.succ sizeL=true:=bt (by rw [rk,List.length_map,List.length_range];exact lT hk (lT mb (by decide)))
  have ac:=zhC (zat x c) k
  have fin:∀v,zno (zat x c) k=v→acc ++ [v]=(List.range (k+1)).map (zno (zat x c)):=fun v e=>by rw [rk,List.range_succ,List.map_append,←e];rfl
  refine (let ww:Wt:=_;(?_:Sm _ ww))
  refine .st (.li (nqI x c)) (congrArg List.tail ei:(zeE x c).map SV.av=(nqI x c).map AV.int) ?_
  rcases fT ((zat x c).contains k) with b | b
  ·exact .st (.b true) (ac.trans b) (.asIs (.st .o (an l1 (rfl:(false || true)=true)) (.next 70 (zsB x c j o (1+((mxL (zat x c):Int)-1))) (fun acc k=>acc=(List.range k).map (zno (zat x c))) k (acc ++ [.int 1]) (.tob 69 [] zl8) (fin _ (by unfold zno;rw [b];rfl)))))
  ·exact .st (.b false) (ac.trans b) (.asIs (.st .o (an l1 (rfl:(false || true)=true)) (.next 70 (zsB x c j o (1+((mxL (zat x c):Int)-1))) (fun acc k=>acc=(List.range k).map (zno (zat x c))) k (acc ++ [.int 0]) (.tob 69 [] zl8) (fin _ (by unfold zno;rw [b];rfl)))))
 intro acc rk
 obtain rfl:acc=(zju x c).map SV.av:=rk.trans (by
  rw [zju,onI,zaz,List.map_map,List.map_map,List.map_map]
  refine List.map_congr_left fun k X=>?_
  unfold zno
  show _=AV.int (Nat.cast (if _ then 1 else 0))
  split <;> rfl)
 refine (let ww:Wt:=_;(?_:Sm _ ww))
 refine .froz 68 (zju x c) (.tt ?_)
 refine .loopM (z:= [1,3]) (f:=fun (n:Nat)=>AV.int (n:Int)) B' 72 (zaM (q:=(false, [.int 1, .int 3])) (v:= .ref 70) rfl) (zqc x c j) Rw (o.map fun a=>a.2.2) ?_ (fun h=>(Nat.lt_irrefl 0 h).elim) (fun X X X=>⟨by kernel_rfl,by kernel_rfl,by kernel_rfl⟩) ?_ ?_
 ·exact .eq zq0 (.tm 1 (fr0 x [("name",oneS c)]) zq1)
 ·intro i k w ew X
  have hw:1≤w∧w≤3:=(by decide:∀w∈ [1,3],1≤w∧w≤3) w (mG ew)
  refine (let ww:Wt:=_;(?_:Sm _ ww))
  exact .viaK zq7 (zig zsf) (zeF zsf) _ fun K=>zpJ B x c w j k i K hc hm hw.1 hw.2 mb
 intro i rk
 obtain ⟨v,rfl⟩:=rk (by decide)
 have ol:zdE x c=mxL (zat x c):=by rw [zdE,zju,onI,List.length_map,List.length_map,List.length_map,zbN]
 refine (let ww:Wt:=_;(?_:Sm _ ww))
 refine .st .o (bt (b:=sizeL) (ol▸lT mb (by decide):zdE x c≤sizeL)) (.st .o (zcy (ol▸lT mb (by decide)):Builtin.Range.small 0 (zdE x c:Nat) 1=true) ?_)
 refine .loopS B' 76 (mxL (zat x c)) (zuQ x c j v) (fun acc k=>acc=(List.range k).map (cnQ (zat x c))) [] (.msk 1 (fr0 x [("name",oneS c)])) rfl (congrArg Nat.cast ol) (fun X X X=>⟨by kernel_rfl,by kernel_rfl⟩) ?_ ?_
 ·intro acc k hk rk
  have l1:Nat.ble acc.length.succ sizeL=true:=bt (by rw [rk,List.length_map,List.length_range];exact lT hk (lT mb (by decide)))
  refine (let ww:Wt:=_;(?_:Sm _ ww))
  refine .st (.li (nqI x c)) (congrArg List.tail ei:(zeE x c).map SV.av=(nqI x c).map AV.int) (.asIs (.st .o (an l1 (rfl:(false || true)=true)) (.next 76 (zuQ x c j v) (fun acc k=>acc=(List.range k).map (cnQ (zat x c))) k (acc ++ [cnQ (zat x c) k]) (.to 75 []) (by rw [rk,List.range_succ,List.map_append];rfl))))
 intro acc rk
 obtain rfl:acc=((ctI x c).map SV.int).map SV.av:=rk.trans (by
  rw [ctI,List.map_map,List.map_map,List.map_map]
  refine List.map_congr_left fun k X=>?_
  unfold cnQ
  rw [ziq];rfl)
 have C2:=fun {h:Hp} {K:AV→Hp→Prop}=>zmZ (P:=P) (h:=h) (K:=K) B 17 (ctI x c) 1 5 (rL 1) (by rw [ctI,List.length_map,List.length_map,List.length_range];exact lT mb (by decide)) (fun d hd=>by
  obtain ⟨s,hs,rfl⟩:=mP hd
  obtain ⟨y,X,rfl⟩:=mP hs
  rw [Int.natAbs_natCast]
  exact lT (List.count_le_length ..) (by rw [zat,List.length_map];exact lT hl (by decide))) (by rw [ctI,List.length_map,List.length_map,List.length_range];lia)
 rw [ctI,zgM,zdB,←zeM (fun p=>2^p) (mxL (zat x c)) (zat x c) fun v hv=>zcn hv] at C2
 refine (let ww:Wt:=_;(?_:Sm _ ww))
 refine .froz 74 ((ctI x c).map SV.int) (.callP C2 ?_)
 refine .loopM (z:=zat x c) (f:=fun (y:Nat)=>AV.int (y:Int)) B' 79 (zaM (q:=(false,(zeE x c).map SV.av)) (v:= .lst (zeE x c)) (by rw [zeE,List.map_map];rfl)) (zuP x c j v) (Mp1 (fun (y:Nat)=>AV.int (2^y:Nat)) (zat x c)) [] (.msk 1 (fr0 x [("name",oneS c)])) rfl (fun X X X=>⟨by kernel_rfl,by kernel_rfl,by kernel_rfl⟩) ?_ ?_
 ·intro acc k y ey rk
  have yb:=nb y (mG ey)
  refine (let ww:Wt:=_;(?_:Sm _ ww))
  exact .st (.i (2^y:Nat)) (And.intro (by rw [Int.toNat_natCast];push_cast;rfl) (an (an (dT (Int.natCast_nonneg _)) (dT (by lia))) (by decide)):(2:Int)^(y:Int).toNat=(2^y:Nat)∧(decide (0≤(y:Int))&&decide ((y:Int)≤100000)&&decide ((2:Int).natAbs<2^64))=true) (.asIs (.st .o (an (rk.len (n:=sizeL) (by rw [zat,List.length_map];exact lE hl (by decide))) (rfl:(false || true)=true)) (.next 79 (zuP x c j v) (Mp1 (fun (y:Nat)=>AV.int (2^y:Nat)) (zat x c)) k (acc ++ [.int (2^y:Nat)]) (.to 78 []) (rk.next ey))))
 intro acc rk
 refine (let ww:Wt:=_;(?_:Sm _ ww))
 refine .asIs (.st (.li (((zat x c).map fun p=>2^p).map fun (v:Nat)=>(v:Int))) (rk.all.trans (by rw [List.map_map,List.map_map];rfl):acc=(((zat x c).map fun p=>2^p).map fun (v:Nat)=>(v:Int)).map AV.int) ?_)
 refine .st (.b false) (by rw [zls,beq_self_eq_true];rfl:(!(((((zat x c).map fun p=>2^p).sum:Nat):Int)==(((zat x c).map fun p=>2^p).map fun (v:Nat)=>(v:Int)).sum))=false) ?_
 exact .next 57 (zsC x) (fun X X=>True) j (some (zeE x c,zju x c,v)) (.msk 1 (fr0 x [])) trivial
end
section
variable {P:PM T3}
set_option maxHeartbeats 4000000 in
theorem ztK(B:Tbl T3 P.c)(vs:Array Value)(is:List Int)(hl:is.length≤63):za6 (P.lv 19).up (.glob 400) [.ref 0] [] (Hp.of [.flist vs 0 is]) (DK (.bool true) [.flist vs 0 is]):=by
 refine zb0 (P:=P.lv 19) (lvB B 19) (?_:Sm (P.lv 19) (w34 (P.lv 19) vs is))
 have BL:=lvB B
 have B':=lvB B 19
 refine (let ww:Wt:=_;(?_:Sm _ ww))
 refine .tt (.loop B' 17 (zf7 (q:=(false,baL.map fun b=>AV.int (b:Nat))) (v:= .ref 12) (j:=13) (ys:=baL.map fun b=>SV.int (b:Nat)) rfl) (zuU vs is) (fun acc k=>acc=(List.range k).map (zmH is)) [] (.msk 1 []) rfl (fun X X X=>⟨by kernel_rfl,by kernel_rfl,by kernel_rfl,by kernel_rfl⟩) ?_ ?_)
 ·intro acc k x ex rk
  obtain ⟨b,hb,rfl⟩:∃b:Nat,baL[k]? = some b∧x=zte k (.int (b:Nat)):=by
   rw [List.getElem?_mapIdx,List.getElem?_map] at ex
   induction q:baL[k]? with
   | none=>rw [q] at ex;exact nomatch ex
   | some b=>rw [q] at ex;exact ⟨b,rfl,(sI ex).symm⟩
  have k8:k<8:=(gE hb).1
  have eb:zmH is k = .int (zir is k b:Nat):=by unfold zmH;rw [List.getD_eq_getElem?_getD,hb];rfl
  refine (let ww:Wt:=_;(?_:Sm _ ww))
  refine .ok (.st .o (bt (b:=sizeL) (lT hl (by decide))) (.st (.li (zaF is (some (k:Int)) none (some 8))) (zhT AV.int is (some (k:Int)) none (some 8)) (.num 1000000000000 (.st (.i (zir is k b:Nat)) (And.intro (zmG is k b) (rfl:((1000000000000:Int) != 0)=true)) (.asIs (.st .o (an (bt (by rw [rk,List.length_map,List.length_range];exact lT k8 (by decide)):Nat.ble acc.length.succ sizeL=true) (rfl:(false || true)=true)) (.next 17 (zuU vs is) (fun acc k=>acc=(List.range k).map (zmH is)) k (acc ++ [.int (zir is k b:Nat)]) (.to 16 []) (by rw [rk,List.range_succ,List.map_append,←eb];rfl))))))))
 intro acc rk
 obtain ⟨c0,cr,hcr,h7⟩:∃c0 cr,zrK is=c0 :: cr∧cr.length=7:=⟨_,_,rfl,rfl⟩
 obtain rfl:acc=((c0 :: cr).map fun c=>SV.int (c:Nat)).map SV.av:=rk.trans (congrArg (fun l:List Nat=>(l.map fun c=>SV.int (c:Nat)).map SV.av) hcr)
 have cl1:(((c0 :: cr).map fun c=>SV.int (c:Nat)).map SV.av).length≤sizeL:=by rw [List.length_map,List.length_map,List.length_cons,h7];decide
 have g0:nth (((c0 :: cr).map fun c=>SV.int (c:Nat)).map SV.av) 0=some (AV.int (c0:Nat)):=zaT (i:=0) rfl (bt (by rw [List.length_map,List.length_map,List.length_cons,h7];decide))
 have os1:(zao names5 (some ((c0%10%5:Nat):Int)) none none).length+(zao names5 none (some ((c0%10%5:Nat):Int)) none).length≤10:=by
  rw [zb2,zeR,List.length_drop,List.length_take]
  exact jD (Nat.sub_le _ _:_≤5) (Nat.min_le_right _ 5)
 refine (let ww:Wt:=_;(?_:Sm _ ww))
 refine .froz 15 ((c0 :: cr).map fun c=>SV.int (c:Nat)) (.st (.a (.int (c0:Nat))) g0 (.md c0 10 (.md (c0%10) 5 (.ok (.ok (.ok (.ok (.st .o (bt (b:=sizeL) (lT os1 (by decide))) ?_))))))))
 refine .st (.a (.int (c0:Nat))) g0 (.dv c0 10 (.md (c0/10) 10 (.md (c0/10%10) 2 ?_)))
 have m2:c0/10%10%2<2:=mT _ (by decide)
 refine (let ww:Wt:=_;(?_:Sm _ ww))
 refine .st (.i (2*((c0/10%10%2:Nat):Int))) (And.intro (rfl:(2:Int)*((c0/10%10%2:Nat):Int)=2*((c0/10%10%2:Nat):Int)) (an (by rfl:za3 2=true) (zaI (lT (lO m2) (by decide))))) ?_
 refine .st .o (by simp;lia:(!(some (1-2*((c0/10%10%2:Nat):Int))==some 0))=true) ?_
 refine .st .o (bt (b:=sizeL) (by rw [List.length_append];exact lT os1 (by decide):(zao names5 (some ((c0%10%5:Nat):Int)) none none++zao names5 none (some ((c0%10%5:Nat):Int)) none).length≤sizeL)) ?_
 have pwl:c0/100%12000<12000:=mT _ (by decide)
 refine (let ww:Wt:=_;(?_:Sm _ ww))
 refine .st (.a (.int (c0:Nat))) g0 (.dv c0 100 (.md (c0/100) 12000 (.dv (c0/100%12000) 2 (.st (.i (2^(1+c0/100%12000/2):Nat)) (And.intro (zoF (c0/100%12000/2)) (zqW (lT (Nat.div_le_self _ 2) (lO pwl)))) (.md (c0/100%12000) 2 ?_)))))
 refine .ok (.st .o (bt (b:=sizeL) cl1) (.loopM B' 21 (zaM (q:=(false,sl1 c0 cr)) (v:= .ref 17) (znk c0 cr)) (zuN vs is c0 cr) (Mp1 pV cr) [] (.msk 1 (f34 c0 cr)) rfl (fun X X X=>⟨by kernel_rfl,by kernel_rfl,by kernel_rfl⟩) ?_ ?_))
 ·intro acc k c ec rk
  refine (let ww:Wt:=_;(?_:Sm _ ww))
  exact .callP (zrS (P:=P.lv 18) (BL 18) c) (.asIs (.st .o (an (rk.len (n:=sizeL) (h7▸(by decide))) (rfl:(false || true)=true)) (.next 21 (zuN vs is c0 cr) (Mp1 pV cr) k (acc ++ [pV c]) (.to 20 []) (rk.next ec))))
 intro acc rk
 obtain rfl:acc=cr.map pV:=rk.all
 have tl:=zeL cr
 rw [h7] at tl
 have tT:(zaf cr++tailT).length≤90000:=by rw [List.length_append];exact lT (Nat.add_le_add_right tl 12) (by decide)
 refine (let ww:Wt:=_;(?_:Sm _ ww))
 refine .asIs (.ok (.st .o (bt (b:=sizeL) cl1) (.frzA 21 ((nI cr).map .int) (.callD (zrR (P:=P.lv 17) (BL 17) cr h7) [19] (.st .o (bt (b:=sizeL) (List.length_append▸lT tT (by decide):(zaf cr).length+tailT.length≤sizeL)) (.tt (.callD (zpL (P:=P.lv 16) (BL 16) (zaf cr++tailT)) [22] ?_)))) (e:=Eq.trans (b:=AO.list false (sl1 c0 cr)) (by kernel_rfl) (congrArg (AO.list false) (zqO c0 cr))))))
 have CN:=zis B (zaf cr++tailT) cr tailT (zi0 c0) h7 rfl tT (zaL c0)
 rw [pos0] at CN
 refine (let ww:Wt:=_;(?_:Sm _ ww))
 refine .callH CN [23,24,25,26,27,28,29,22,30,19] fun v E K=>?_
 obtain ⟨q,bs,qs,qe,bk,rfl,rfl⟩:=K
 refine (let ww:Wt:=_;(?_:Sm _ ww))
 refine .tt (.st .len (rfl:Nat.beq [AV.ref 32].length ([]:List AV).length=false) (.ff ?_))
 let x:L34:=⟨vs,is,c0,cr,bs⟩
 refine .loopM B' 40 (za2 (z:=names5)) (zuR x q) (fun i j=>i.1=dL (fH (za0 cr)) j) ([], []) (.msk 1 (g34 c0 (zaf cr) [])) rfl (fun X X X=>⟨by kernel_rfl,by kernel_rfl⟩) ?_ ?_
 ·intro i j c ec r
  obtain ⟨d,nm⟩:=i
  have r:d=dL (fH (za0 cr)) j:=r
  have l0:=zqf h7 c
  refine (let ww:Wt:=_;(?_:Sm _ ww))
  refine .loopM B' 43 (zam (q:=(false,cr.map pV)) (v:= .ref 19)) (zu3 x q d j c) (Fm (hG c) cr) [] (.msk 1 (g34 c0 (zaf cr) [])) rfl (fun X X X=>⟨by kernel_rfl,by kernel_rfl,by kernel_rfl⟩) ?_ ?_
  ·intro acc k p ep rp
   refine (let ww:Wt:=_;(?_:Sm _ ww))
   refine .rf (.a (.str [nmN p])) (some (AV.str [nmN p])) ?_
   rcases fT ([nmN p] == [c]) with g | g
   ·exact .st (.b true) g (.rf (.a (.str ([za7 p]++zab p))) (some (AV.str ([za7 p]++zab p))) (.ok (.st .o (bt (b:=sizeL) (Nat.succ_le_succ (lT (zaW p) (by decide:3≤16777215)))) (.asIs (.st .o (an (rp.len (n:=sizeL) (h7▸(by decide))) (rfl:(false || true)=true)) (.next 43 (zu3 x q d j c) (Fm (hG c) cr) k (acc ++ [.str (zP p)]) (.to 42 []) (rp.one ep (by unfold hG;rw [g];rfl))))))))
   ·exact .st (.b false) g (.next 43 (zu3 x q d j c) (Fm (hG c) cr) k acc (.to 42 []) (rp.no ep (by unfold hG;rw [g];rfl)))
  intro acc rp
  refine (let ww:Wt:=_;(?_:Sm _ ww))
  refine .asIs (.st (.ls ((zaV cr c).map zP)) (rp.all.trans (zrm cr c)) (.st .o (bt (b:=sizeL) (by rw [List.length_nil,Nat.mul_zero];exact lT l0 (by decide):(((zaV cr c).map zP).map List.length).sum+((zaV cr c).map zP).length*([]:List Nat).length≤sizeL)) (.st .o (an (r▸zdb (fH (za0 cr)) j:Nat.ble d.length.succ sizeL=true) (rfl:(false || true)=true)) (.next 40 (zuR x q) (fun i j=>i.1=dL (fH (za0 cr)) j) j (zcj d [c] (.str (zaB [] ((zaV cr c).map zP))), [c]) .ct ((zjY cr c).symm▸zaK r ec)))))
 intro i r
 obtain ⟨d,nm⟩:=i
 obtain rfl:d=dL (fH (za0 cr)) 5:=r
 refine (let ww:Wt:=_;(?_:Sm _ ww))
 refine .asIs (.callD (zkM (P:=P.lv 18) (BL 18) (za0 cr) fun c=>lT (zbk h7 c) (by decide)) [37] ?_)
 refine .loopM B' 43 (za2 (z:=names5)) (zu5 x q) (Fm (eG (za0 cr)) names5) [] (.msk 1 (g34 c0 (zaf cr) [("holds", .ref 37)])) rfl (fun X X X=>⟨by kernel_rfl,by kernel_rfl⟩) ?_ ?_
 ·intro acc k c ec rk
  refine (let ww:Wt:=_;(?_:Sm _ ww))
  refine .st (.ls ((za1 (za0 cr) 5).map fun c=> [c])) (by rw [List.map_map,List.map_map];rfl:((za1 (za0 cr) 5).map zdi).map SV.av=((za1 (za0 cr) 5).map fun c=> [c]).map AV.str) ?_
  rcases fT ((za1 (za0 cr) 5).contains c) with g | g
  ·exact .st (.b false) (congrArg not ((zbi _ c).trans g):(!((za1 (za0 cr) 5).map fun c=> [c]).any (· == [c]))=false) (.next 43 (zu5 x q) (Fm (eG (za0 cr)) names5) k acc (.to 42 []) (rk.no ec (by unfold eG;rw [g];rfl)))
  ·exact .st (.b true) (congrArg not ((zbi _ c).trans g):(!((za1 (za0 cr) 5).map fun c=> [c]).any (· == [c]))=true) (.asIs (.st .o (an (rk.len (n:=sizeL) (by decide)) (rfl:(false || true)=true)) (.next 43 (zu5 x q) (Fm (eG (za0 cr)) names5) k (acc ++ [oneS c]) (.to 42 []) (rk.one ec (by unfold eG;rw [g];rfl)))))
 intro acc rk
 obtain rfl:acc=((zac (za0 cr)).map zdi).map SV.av:=rk.all.trans (znI (za0 cr))
 refine (let ww:Wt:=_;(?_:Sm _ ww))
 refine .froz 41 ((zac (za0 cr)).map zdi) ?_
 refine .loopM B' 46 (za2 (z:=names5)) (zu4 x q) (Fm (eG (za0 cr)) names5) [] (.msk 1 (g34 c0 (zaf cr) [("holds", .ref 37),("ended",d34 x)])) rfl (fun X X X=>⟨by kernel_rfl,by kernel_rfl⟩) ?_ ?_
 ·intro acc k c ec rk
  have hc5:c∈names5:=mG ec
  have C:=zkL (P:=P.lv 17) (BL 17) bs [c] (zea c hc5).1 bk.okH
  by_cases g:c∈q
  ·rw [zfb bk hc5 g] at C
   refine (let ww:Wt:=_;(?_:Sm _ ww))
   exact .rf (.a (.ref 32)) (some (AV.ref 32)) (.callD C [32,33,34] (.ff (.next 46 (zu4 x q) (Fm (eG (za0 cr)) names5) k acc (.to 45 []) (rk.no ec (by unfold eG;rw [List.contains_iff_mem.mpr ((qe c hc5).mp g)];rfl)))))
  ·rw [zd4 bk hc5 g] at C
   refine (let ww:Wt:=_;(?_:Sm _ ww))
   exact .rf (.a (.ref 32)) (some (AV.ref 32)) (.callD C [32,33,34] (.tt (.asIs (.st .o (an (rk.len (n:=sizeL) (by decide)) (rfl:(false || true)=true)) (.next 46 (zu4 x q) (Fm (eG (za0 cr)) names5) k (acc ++ [oneS c]) (.to 45 []) (rk.one ec (by unfold eG;rw [Bool.eq_false_iff.mpr fun z=>g ((qe c hc5).mpr (List.contains_iff_mem.mp z))];rfl)))))))
 intro acc rk
 obtain rfl:acc=((zac (za0 cr)).map zdi).map SV.av:=rk.all.trans (znI (za0 cr))
 have es:((zac (za0 cr)).map zdi).map SV.av=((zac (za0 cr)).map fun c=> [c]).map AV.str:=zg2 _
 have ch:=zfr (l:=zac (za0 cr)) fun m hm=>(List.mem_filter.mp hm).1
 have pT:x.p=(zaf cr).length:=(congrArg (· - 12) (List.length_append (as:=zaf cr) (bs:=tailT))).trans (Nat.add_sub_cancel _ _)
 refine (let ww:Wt:=_;(?_:Sm _ ww))
 refine .asIs (.st (.txt ((zac (za0 cr)).map fun c=> [c]) ((zac (za0 cr)).map fun c=> [c])) (And.intro es (And.intro es (And.intro ch ch))) (.st (.b false) (by rw [beq_self_eq_true];rfl:(!(((zac (za0 cr)).map fun c=> [c])==((zac (za0 cr)).map fun c=> [c])))=false) (.rf (.a (.int (x.p:Nat))) (some (AV.int (x.p:Nat))) (.st .o (bt (b:=sizeL) (lT tl (by decide))) ?_))))
 have on:(zi0 c0).Nodup:=(zaL c0).nodup_iff.mpr (by decide)
 have oq:q=(zi0 c0).filter fun c=>(za1 (za0 cr) 5).contains c:=zhO qs on fun c hc=>qe c ((zaL c0).mem_iff.mp hc)
 have En:(za1 (za0 cr) 5).Nodup:=List.Nodup.sublist List.filter_sublist (by decide:names5.Nodup)
 have ql:q.length=(za1 (za0 cr) 5).length:=((List.perm_ext_iff_of_nodup (on.sublist qs) En).mpr fun c=>⟨fun h=>(qe c ((zaL c0).mem_iff.mp (qs.subset h))).mp h,fun h=>(qe c (zd0 _ 5 c h)).mpr h⟩).length_eq
 have q5:q.length≤5:=lT qs.length_le (Nat.le_of_eq (zaL c0).length_eq)
 refine (let ww:Wt:=_;(?_:Sm _ ww))
 refine .st (.b false) (by rw [pT,beq_self_eq_true];rfl:(!((x.p:Int)==((zaf cr).length:Nat)))=false) (.ff ?_)
 refine .loopM (z:=za1 (za0 cr) 5) (f:=oneS) B' 49 (zaM (q:=(false,((za1 (za0 cr) 5).map zdi).map SV.av)) (v:=x34 x) (by rw [List.map_map];rfl)) (zuL x) (fun i k=>i=((q.take k).map oneS,q.drop k)) ([],q) (.msk 1 (g34 c0 (zaf cr) [("holds", .ref 37),("ended",d34 x)])) rfl (fun X X X=>⟨by kernel_rfl,by kernel_rfl,by kernel_rfl⟩) ?_ ?_
 ·intro i k c ec rk
  have kq:k<q.length:=ql▸(gE ec).1
  have hdr:q.drop k=q[k] :: q.drop (k+1):=List.drop_eq_getElem_cons kq
  obtain rfl:=rk.trans (congrArg (Prod.mk _) hdr)
  refine (let ww:Wt:=_;(?_:Sm _ ww))
  exact .callD (zdT (P:=P.lv 18) (BL 18) x.T x.p 5 [q[k]] ((q.drop (k+1)).map oneS) (by rw [List.length_map,List.length_drop];lia)) [23,24,25,26,27,28,29,22,30] (.asIs (.st .o (an (bt (by rw [List.length_map,List.length_take];exact lT (Nat.succ_le_succ (lT (Nat.min_le_right _ _) q5)) (by decide)):Nat.ble ((q.take k).map oneS).length.succ sizeL=true) (rfl:(false || true)=true)) (.next 49 (zuL x) (fun i k=>i=((q.take k).map oneS,q.drop k)) k ((q.take k).map oneS ++ [.str [q[k]]],q.drop (k+1)) (.to 48 []) (by rw [List.take_succ,List.getElem?_eq_getElem kq,List.map_append];rfl))))
 intro i rk
 obtain rfl:i=(q.map oneS, []):=rk.trans (by rw [←ql,List.take_length,List.drop_length])
 refine (let ww:Wt:=_;(?_:Sm _ ww))
 refine .asIs (.loopM B' 52 (za2 (z:=zi0 c0)) (zu0 x q) (Fm (inG (za1 (za0 cr) 5)) (zi0 c0)) [] (.msk 1 (g34 c0 (zaf cr) [("holds", .ref 37),("ended",d34 x)])) rfl (fun X X X=>⟨by kernel_rfl,by kernel_rfl⟩) ?_ ?_)
 ·intro acc k c ec rk
  refine (let ww:Wt:=_;(?_:Sm _ ww))
  refine .st (.ls ((za1 (za0 cr) 5).map fun c=> [c])) (zg2 _:((za1 (za0 cr) 5).map zdi).map SV.av=((za1 (za0 cr) 5).map fun c=> [c]).map AV.str) ?_
  rcases fT ((za1 (za0 cr) 5).contains c) with g | g
  ·exact .st (.b true) ((zbi _ c).trans g) (.asIs (.st .o (an (rk.len (n:=sizeL) ((zaL c0).length_eq▸(by decide))) (rfl:(false || true)=true)) (.next 52 (zu0 x q) (Fm (inG (za1 (za0 cr) 5)) (zi0 c0)) k (acc ++ [oneS c]) (.to 51 []) (rk.one ec (by unfold inG;rw [g];rfl)))))
  ·exact .st (.b false) ((zbi _ c).trans g) (.next 52 (zu0 x q) (Fm (inG (za1 (za0 cr) 5)) (zi0 c0)) k acc (.to 51 []) (rk.no ec (by unfold inG;rw [g];rfl)))
 intro acc rk
 obtain rfl:acc=q.map oneS:=rk.all.trans ((fmB (fun c=>(za1 (za0 cr) 5).contains c) oneS (zi0 c0)).trans (congrArg (List.map oneS) oq.symm))
 have qi:=zg2 q
 have qc:=zfr (l:=q) fun m hm=>(zaL c0).mem_iff.mp (qs.subset hm)
 have qe0:q.map oneS=(q.map fun c=> [c]).map AV.str:=by rw [List.map_map];rfl
 refine (let ww:Wt:=_;(?_:Sm _ ww))
 refine .asIs (.st (.txt (q.map fun c=> [c]) (q.map fun c=> [c])) (And.intro qe0 (And.intro qe0 (And.intro qc qc))) (.st (.b false) (by rw [beq_self_eq_true];rfl:(!((q.map fun c=> [c])==(q.map fun c=> [c])))=false) (.callD (ziu (P:=P.lv 18) (BL 18) (za0 cr) (zbk h7) (zaE cr)) [37] ?_)))
 have Dn:(zac (za0 cr)).Nodup:=List.Nodup.sublist List.filter_sublist (by decide)
 have Dl:(zac (za0 cr)).length≤5:=List.length_filter_le ..
 refine (let ww:Wt:=_;(?_:Sm _ ww))
 refine .loopM (z:=zac (za0 cr)) (f:=oneS) B' 56 (zaM (q:=(false,((zac (za0 cr)).map zdi).map SV.av)) (v:=d34 x) (by rw [List.map_map];rfl)) (zuO x) (fun d k=>d=nL (fN (za0 cr)) ((zac (za0 cr)).take k)) [] (.msk 1 (g34 c0 (zaf cr) [("holds", .ref 37),("ended",d34 x)])) rfl (fun X X X=>⟨by kernel_rfl,by kernel_rfl,by kernel_rfl⟩) ?_ ?_
 ·intro d k c ec rk
  obtain ⟨hc5,hcE⟩:=zdO (mG ec)
  have C:=zkL (P:=P.lv 17) (BL 17) bs [c] (zea c hc5).1 bk.okH
  rw [zd4 bk hc5 fun z=>hcE ((qe c hc5).mp z)] at C
  refine (let ww:Wt:=_;(?_:Sm _ ww))
  refine .rf (.a (.ref 32)) (some (AV.ref 32)) (.callD C [32,33,34] (.callP (zfw (P:=P.lv 16) (BL 16) (Nat.lt_trans (zcQ (fun c X=>zaE cr c) hc5 hcE) (by decide))) (.st .o (an (bt (by rw [rk,nL,List.length_map];exact lT (Nat.succ_le_succ (lT (List.length_take_le' ..) Dl)) (by decide)):Nat.ble d.length.succ sizeL=true) (rfl:(false || true)=true)) (.next 56 (zuO x) (fun d k=>d=nL (fN (za0 cr)) ((zac (za0 cr)).take k)) k (zcj d [c] (fN (za0 cr) c)) (.to 55 []) (zjm Dn rk ec)))))
 intro d rk
 obtain rfl:d=nL (fN (za0 cr)) (zac (za0 cr)):=rk.trans (by rw [List.take_length])
 obtain ⟨u,hu,u1,u2⟩:=zqr c0
 refine (let ww:Wt:=_;(?_:Sm _ ww))
 refine .asIs (.loopM (z:=zac (za0 cr)) (f:=oneS) B' 57 (zaM (q:=(false,((zac (za0 cr)).map zdi).map SV.av)) (v:=d34 x) (by rw [List.map_map];rfl)) (zsC x) (fun X X=>True) none (.msk 1 (fr0 x [])) trivial (fun X X X=>⟨by kernel_rfl,by kernel_rfl,by kernel_rfl⟩) (fun o j c ec X=> .viaK zq7 (zig zq5) (zeF zq5) _ fun K=>zrT B x c j u o K (mG ec) h7 hu u1 u2) ?_)
 intro o X
 refine (let ww:Wt:=_;(?_:Sm _ ww))
 refine .ok ?_
 refine .loopN B' 61 5 (zuK x) (fun acc k=>acc=(endW.take k).map .str) [] (.msk 1 [("page", .ref 22)]) rfl (fun X X X=>⟨by kernel_rfl,by kernel_rfl⟩) ?_ ?_
 ·intro acc k hk rk
  obtain ⟨w,hw⟩:∃w,endW[k]? = some w:=⟨_,List.getElem?_eq_getElem (show k<endW.length from hk)⟩
  obtain ⟨dr,pl⟩:=ze9 (T:=x.T) (zpr cr k)
  have C:=zgl (P:=P.lv 16) (BL 16) x.T tT (pos x.T (zpt k)) (zq9 k) pl (w,zpt (k+1),zq9 (k+1)) ((congrArg (zdF (zq9 k)) dr).trans (zps k w hw))
  refine (let ww:Wt:=_;(?_:Sm _ ww))
  exact .callD C [23,24,25,26,27,28,29,22,30] (.asIs (.st .o (an (bt (by rw [rk,List.length_map,List.length_take];exact lT (Nat.succ_le_succ (lT (Nat.min_le_left _ _) (lO hk))) (by decide)):Nat.ble acc.length.succ sizeL=true) (rfl:(false || true)=true)) (.next 61 (zuK x) (fun acc k=>acc=(endW.take k).map .str) k (acc ++ [.str w]) (.to 60 []) (by rw [rk,List.take_succ,hw,List.map_append];rfl))))
 intro acc rk
 obtain rfl:acc=endW.map .str:=rk
 refine (let ww:Wt:=_;(?_:Sm _ ww))
 refine .asIs (.tt ?_)
 have ech:∀s∈endW,zgk s:=(by decide:∀s∈endW,∀c∈s,c<0x110000)
 refine (let ww:Wt:=_;(?_:Sm _ ww))
 refine .st (.txt endW endW) (And.intro (rfl:endW.map AV.str=endW.map AV.str) (And.intro (rfl:endW.map AV.str=endW.map AV.str) (And.intro ech ech))) ?_
 refine .tt ?_
 refine .rf (.a (.str x.T)) (some (AV.str x.T)) ?_
 exact .asIs (.endE 1 (.bool true) [.flist vs 0 is] [0] (.bool ((7:Int)==1+zdc x.T [10])) (by rw [show zdc x.T [10]=6 from zkY h7];rfl))
end
end Mn
end
section
open PySem PySem.W PySem.Calls PyProof.Rows
namespace Mn
theorem zmt(w:World)(q:Pos):head3 w q=some (true,zkb):=(congrArg (head3 · q) (World.withFollow_self w "special-get-raises")).symm.trans (zgd (w.params.followText "special-get-raises") w q)
theorem zfC{B h:Heap}{x:Obj}{b:Addr}{o:Obj}(hs:∃o,B.get? cStatics=some o)(K:asItWas B h b o):asItWas (B.push x) h b o:=
 K.imp id fun k=>k.imp (fun ⟨⟨c,o',vs,k1,k2⟩,k5⟩=>⟨⟨c,o',vs,pS _ k1,k2⟩,k5⟩) fun ⟨e,k1,k2,k3⟩=>⟨e,k1,k2,fun key=>hs.elim fun X ho=>(OldK.staticOf_congr ((pS _ ho).trans ho.symm) key:staticOf (B.push x) key=staticOf B key).symm▸k3 key⟩
theorem zjo{B:Heap}{x:Obj}(hl:x.isFreed=false){b:Addr}{o:Obj}(e:(B.push x).get? b=some o):B.get? b=some o∨(b=B.objs.size∧o=x):=
 (Nat.lt_or_ge b B.objs.size).imp (fun q=>Heap.get?_some_iff.mpr ((Heap.get?_some_iff.mp e).imp (fun z=>(Array.getElem?_eq_getElem q).trans ((Array.getElem?_push_lt (xs:=B.objs) (x:=x) q).symm.trans z)) id)) fun q=>by
  have hb:=Heap.lt_size e
  rw [Heap.size_push] at hb
  obtain rfl:b=B.objs.size:=Nat.le_antisymm (Nat.le_of_lt_succ hb) q
  exact ⟨rfl,sI (e.symm.trans (pZ _ hl))⟩
theorem zjz{B h:Heap}{x:Obj}(hs:∃o,B.get? cStatics=some o)(hl:x.isFreed=false)(K:OldK B h)(hx:h.get? B.objs.size=some x):OldK (B.push x) h:=
 ⟨fun b o e=>(zjo hl e).elim (fun q=>zfC hs (K.old b o q)) fun ⟨q1,q2⟩=> .inl (q1▸q2▸hx),fun b o e=>(zjo hl e).elim (fun q=>K.there b o q) fun ⟨q1,X⟩=>⟨x,q1▸hx⟩⟩
theorem zpd{W:Wd}{vs:List Value}{is:List Int}(h:IntsAre vs is):Rs (VR W 0) (is.map .int) vs:=by
 induction h with
 | nil=>exact .nil
 | cons i t X ih=>exact .cons ⟨t,rfl⟩ ih
section
variable {p:Program} {w:World} {S:SharedT} {T:TabsL}
noncomputable def W0(S:SharedT):Wd:=⟨fun X=>S.abs.heap.objs.size,fun X=>none⟩
theorem ziU(h:(stL T S).all id=true)(hg:S.gens = #[]){vs:List Value}{is:List Int}{tk:Nat}(hI:IntsAre vs is):
  Rel (zsw T S p w) (W0 S) (Hp.of [.flist vs.toArray 0 is]) {S.abs with heap:=S.abs.heap.push (zbe vs.toArray),toks:=tk} where
 at_:=fun n q X=>⟨by
  induction e:S.abs.heap.get? S.abs.heap.objs.size with
  | none=>exact e
  | some o=>exact absurd (Heap.lt_size e) (Nat.lt_irrefl _),by
  obtain rfl:n=0:=Nat.lt_one_iff.mp q
  exact ⟨_,pZ _ rfl,rfl,zpd hI⟩⟩
 apart:=fun m n q r X X X=>(Nat.lt_one_iff.mp q).trans (Nat.lt_one_iff.mp r).symm
 fz:=fun X X e=>no e
 amb:=⟨fun b o e X=>pS _ e,fun t m=>have b:=zgn (zfF (zai 9 (zai 0 h)) m);⟨fun q=>no (q.symm.trans b), .inl (pS _ b)⟩,hg,rfl⟩
theorem zlq(hF:T.fns.map (zst T S)=T.fns.map zsv)(hT:(T.tA.all fun t=>T.fns.any fun x=>decide (x.2.1.tab.map (·.1)=some t))=true){t:Addr}(m:t∈T.tA):isCodeTable S.abs.heap t:=
 (List.any_eq_true.mp (zfF hT m)).elim fun x q=>(jE (oD q.2)).elim fun y z=>(jE (List.map_inj_left.mp hF x q.1)).elim fun f u=>
  (zfn (congrArg (·.2.2.2.2.2.getD 1 true) u.2)).elim fun X h=>h.elim fun X h=>h.elim fun X h=>h.elim fun X h=>h.elim fun X h=>(z.2▸(h.2.2.2.2.2 y.1 y.2.1 y.2.2 z.1).2.2.1.isCodeTable :)
theorem zpY:(T3r.tA.all fun t=>T3r.fns.any fun x=>decide (x.2.1.tab.map (·.1)=some t))=true:=by kernel_rfl
end
theorem zqz{B h:Heap}{b:Addr}{vs:Array Value}(k:isCodeTable B b)(q:h.get? b=some {cls:= .none,data:= .fields vs}):asItWas B h b {cls:= .none,data:= .fields #[]}:= .inr (.inl ⟨k,rfl, #[],vs,rfl,by rw [Array.empty_append];exact q⟩)
abbrev rw3:=PySem.Challenge.rw_we0036_03
theorem zjW{w:World}{S:SharedT}(hS:zou S=zkb)(hg:S.gens = #[])(is:List Int)(vs:List Value)(tk:Nat)(hlen:is.length≤63)(hI:IntsAre vs is):
  wpAny (model pw3 w) callerA (call (.ref 400) [.ref S.abs.heap.objs.size]) (fun v s'=>v = .bool true∧OldK (S.abs.heap.push (zbe vs.toArray)) s'.heap∧s'.os=S.abs.os∧s'.gens = #[]) (fun X X=>False)
   {S.abs with heap:=S.abs.heap.push (zbe vs.toArray),toks:=tk}:=by
 have h1:(stL T3r S).all id=true:=congrArg (·.1) hS
 have St:=zol (p:=pw3) (w:=w) h1 (congrArg (·.2.2.1) hS) (congrArg (·.2.2.2) hS)
 have Tb:=zqy (p:=pw3) (w:=w) h1
 have C:=ztK (P:=⟨_,St,0⟩) Tb vs.toArray is hlen
 refine wpAny_call (C callerA (fun X X=>False) _ _ (W0 S) (.ref 400) [.ref S.abs.heap.objs.size] [] ⟨rfl,(by decide:callerA.depth+8*20<900),(by decide:callerA.units+60*20+70<cLine)⟩ (ziU h1 hg hI) rfl (.cons ⟨Nat.zero_lt_one,rfl⟩ .nil) .nil fun W' v val h' s' St' V K=>?_).2
 obtain ⟨rfl,rfl⟩:=K
 obtain rfl:val = .bool true:=V
 have R:=St'.rel
 have L:=(R.at_ 0 Nat.zero_lt_one rfl).2
 have pl:W'.pl 0=S.abs.heap.objs.size:=St'.le.pl 0 Nat.zero_lt_one
 refine ⟨rfl,zjz ((Heap.Ns.of_isNs (zai 2 (zai 0 h1))).imp fun X q=>q.elim fun X q=>q.elim fun X q=>q.1) rfl ⟨fun b o e=>?_,fun b o e=>?_⟩ (pl▸L.elim fun ob q=>q.1.trans (congrArg some q.2.1)),R.amb.os,R.amb.gens⟩
 ·refine (Decidable.em (b∈T3r.tA)).elim (fun m=>?_) fun m=> .inl (R.amb.base b o e m)
  obtain rfl:=sI (e.symm.trans (zgn (zfF (zai 9 (zai 0 h1)) m)))
  exact (R.amb.tab b m).2.elim .inl fun ⟨X,Z,q,Y⟩=>zqz (zlq (congrArg (·.2.2.2) hS) zpY m) q
 ·exact (Decidable.em (b∈T3r.tA)).elim (fun m=>(R.amb.tab b m).2.elim (fun q=>⟨_,q⟩) fun ⟨X,Z,q,Y⟩=>⟨_,q⟩) fun m=>⟨o,R.amb.base b o e m⟩
theorem zh7{S:SharedT}(hS:zou S=zkb)(hn:S.abs.heap.isNs mainGlobals=true):isTheDefsW pw3 S.abs.heap (Str.ofString "law")∧S.abs.heap.nsMap mainGlobals (Str.ofString "law")=some (.ref 400):=by
 have h1:(stL T3r S).all id=true:=congrArg (·.1) hS
 have hgl:S.abs.heap.nsMap mainGlobals (Str.ofString "law")=some (.ref 400):=(gB.ex (zfF (zai 7 (zai 0 h1)) (zal (by kernel_rfl:T3r.gl.lookup (Str.ofString "law")=some (.glob 400))))).elim fun u q=>q.1.trans (congrArg some (oD q.2))
 obtain ⟨fd,e0,e1⟩:=jE (congrArg (·.2.1) hS:zjV S=some (("law" :Str),("law" :Str), [true,true,true]))
 obtain ⟨f,e2,e3⟩:=jE (List.map_inj_left.mp (congrArg (·.2.2.2) hS) (400,zah pw3 34 none, []) (zal (by kernel_rfl:T3r.fns.lookup 400=some (zah pw3 34 none, []))))
 obtain rfl:f=fd:=sI (e2.symm.trans e0)
 obtain ⟨o,k1,k2⟩:=znF e0
 have bs:=congrArg (·.2.2) e1
 exact ⟨⟨400,o,f,(zah pw3 34 none).params,(zah pw3 34 none).body,(zah pw3 34 none).scope,(Pin.globalOf_eq hn _).trans hgl,k1,k2,by kernel_rfl,congrArg (·.1) e1,congrArg (·.2.1) e1,congrArg (·.1) e3,congrArg (·.2.1) e3,congrArg (·.2.2.1) e3,congrArg (·.2.2.2.1) e3,eI (congrArg (·.getD 0 true) bs),congrArg (·.2.2.2.2.1) e3,
  .inl ⟨by kernel_rfl,oD (congrArg (·.getD 1 true) bs)⟩, [],by kernel_rfl, .inl ⟨rfl,oD (congrArg (·.getD 2 true) bs)⟩⟩,hgl⟩
theorem st3:(behindTheImports pw3)[16]? = some pc3.st:=by kernel_rfl
theorem it3(env:Env):(evalEachOpt pc3.ks env).zip ((evalEach pc3.vs env).map fun v=>do let y←v;standAt pc3.dpos;pure y)=pc3.kvs.map fun kv=>(some (zcY kv),zcE pc3.dpos kv):=by kernel_rfl
noncomputable def up3(l:List Int):Int→Bool:=List.rec (motive:=fun X=>Int→Bool) (fun X=>true) (fun x X ih b=>decide (b<x)&&ih x) l
theorem zna:∀(l:List Int) (b:Int),up3 l b=true→(∀x,x∈l→b<x)∧l.Pairwise (· < ·)
 | [],_,_=>⟨fun X m=>(nomatch m), .nil⟩
 | x :: l,b,h=>by
  have q:=aI h
  have lt:b<x:=oD q.1
  have z:=zna l x q.2
  exact ⟨fun y m=>(cP m).elim (fun e=>e▸lt) fun m=>Int.lt_trans lt (z.1 y m), .cons z.1 z.2⟩
theorem zjX:(up3 (pc3.kvs.map (·.1)) (-1)&&Nat.ble pc3.kvs.length sizeLine)=true:=by kernel_rfl
theorem zma(w:World):Beh pw3 (Str.ofString "law") w:=by
 obtain ⟨h1,h2⟩:=zhL (p:=pw3) (w:=w) (n₀:=28) (ann:=6) (N:=100000) (i:=16) (x:=pc3) (k:=zuB) (y:=(true,zkb)) st3 it3 ⟨[], .nil,(zna (pc3.kvs.map (·.1)) (-1) (zaQ zjX).1).2⟩ (jL (zaQ zjX).2) (fun S0 S e=>congrArg (·.1) e)
  (fun S0 hS0=>by
   have:=zlL w
   unfold open3 openG at this
   rw [←table_eq_tree,hS0] at this
   have e:=sI this
   exact ⟨congrArg (·.1) e,congrArg (·.2.1) e,congrArg (·.2.2.1) e,Array.size_eq_zero_iff.mp (congrArg (·.2.2.2) e)⟩)
  (fun q=>by
   have:=zmt w q
   unfold head3 headG at this
   rwa [←table_eq_tree] at this)
 refine ⟨h1,fun s hs=>?_⟩
 obtain ⟨s₀,a1,a2,S0,S,a3,a4,a5,a6,a7,a8⟩:=h2 s hs
 have a8:=congrArg (·.2) a8
 exact ⟨s₀,S.abs,400,a1,a2,a4,a5,a6,a7,(zh7 a8 a7).1,(zh7 a8 a7).2,fun is vs tk hl hI=>zjW a8 a6 is vs tk hl hI⟩
noncomputable def law3_holds.tw15592364707350462940:PySem.Program:=PySem.Challenge.pw_we0036_03
theorem law3_holds.te15592364707350462940:PySem.Challenge.pw_we0036_03=law3_holds.tw15592364707350462940:=rfl
set_option maxHeartbeats 0 in
set_option Elab.async true in
theorem law3_holds:rw3.Holds:=by
 w_on
 o_law
 rename_i said
 refine zif said ?_ ?_ ?_ rfl ?_ (fun args h=>zlF rfl h) (zma)
 ·w_witness2
 ·exact ⟨rfl,rfl,rfl,rfl,rfl,by decide +kernel⟩
 ·decide +kernel
 ·decide +kernel
end Mn
end
end
set_option maxHeartbeats 4000000 in
theorem PySem.Challenge.cw_we0036_03_holds : PySem.Challenge.rw_we0036_03.Holds :=
 Mn.law3_holds
