import PyProof.Rows.All
import Wide.All
import OpenK.AllK
import Wide.FinOn
import PyProof.Rows.SeqMore
import KE.KBytesWalk
import PyProof.EnumIter
import PyProof.RangeIter
import PyProof.TupleIter
import PyProof.EnumFor
import PyProof.Cells
import KE.KLam
import KE.BytesMake
import PyProof.ExcStrCall
import PyProof.ExcStrAll.ValueError
import Wide.BytesRules
import PyProof.IsiPairs
import PyProof.Rows.MinMaxN
import KE.KItem
import KE.KSliceW
import PyProof.EnumMake
import PyProof.EnumStmt
import PyProof.ExcFactsAll.ValueError
import PyProof.NsDelKeeps
import PyProof.RaisesMany
import PyProof.RangeFor
import PyProof.Rows.Range3
import PyProof.RulesAs
import PyProof.AttrMiss
import PyProof.AttrMissHeap
import PyProof.IsiH_list
import KE.KSortAsk
import KE.KSortKey
import KE.KSortTup
import PyProof.DictDisplay
import KE.KNestM
import Lean
import PySem.Challenge.RW_wy0026_01
set_option Elab.async false
set_option linter.all false
set_option maxRecDepth 100000
noncomputable section
namespace Mine
open PySem PySem.Calls PyProof.Rows PySem.W
noncomputable def badIds:List String:=["bytearray.__contains__","bytearray.__mod__","bytearray.__rmod__","_struct.pack_into.held","bytearray.find.held"]++Builtin.Bytes.decodersThatHold
noncomputable def badCode:Code→Bool
  | .builtin id _=>badIds.contains id
  | _ => false
noncomputable def GoodB (Γ:Ctx):Prop:=∀ x∈Γ.below,badCode x.1=false
noncomputable def Good (Γ:Ctx):Prop:=badCode Γ.code=false∧GoodB Γ
noncomputable def wpAny {α:Type} (M:Model) (A:Around) (t:Sem α) (Q:α→Shared→Prop) (E:Value→Shared→Prop) (s:Shared):Prop:=
  ∀ Γ p,Γ.In A→Good Γ→Sem.wp M Γ t (fun a _ s'=>Q a s') (fun e _ s'=>E e s') p s
noncomputable def codeAny (M:Model) (A:Around) (c:Code) (R:Result→Shared→Prop) (s:Shared):Prop:=
  ∀ Γ p,Γ.code=c→Γ.Below A→GoodB Γ→wpCode M Γ R p s
section
variable {α β:Type} {M:Model} {A:Around} {E:Value→Shared→Prop} {s:Shared} {env:Env}
theorem up {t:Sem α} {Q:α→Shared→Prop} (h:PySem.wpAny M A t Q E s):wpAny M A t Q E s:=fun Γ p hΓ _=>h Γ p hΓ
theorem upC {c:Code} {R:Result→Shared→Prop} (h:PySem.codeAny M A c R s):codeAny M A c R s:=fun Γ p hc hΓ _=>h Γ p hc hΓ
theorem wpAny_mono {t:Sem α} {Q Q':α→Shared→Prop} {E':Value→Shared→Prop} (h:wpAny M A t Q E s)
    (hQ:∀ a s,Q a s→Q' a s) (hE:∀ e s,E e s→E' e s):wpAny M A t Q' E' s:=
  fun Γ p hΓ g=>Sem.wp_mono M Γ t (fun a _ s=>hQ a s) (fun e _ s=>hE e s) p s (h Γ p hΓ g)
theorem wpAny_bind {m:Sem α} {f:α→Sem β} {Q:β→Shared→Prop} (h:wpAny M A m (fun a s'=>wpAny M A (f a) Q E s') E s) :
    wpAny M A (m >>= f) Q E s:=fun Γ p hΓ g=>by
  rw [Sem.wp_bind']
  exact Sem.wp_mono M Γ m (fun a p' s' h'=>h' Γ p' hΓ g) (fun _ _ _ h'=>h') p s (h Γ p hΓ g)
theorem wpAny_onRaise {m:Sem α} {k:Value→Sem Unit} {Q:α→Shared→Prop}
    (h:wpAny M A m Q (fun e s'=>wpAny M A (k e) (fun _ s''=>E e s'') E s') s):wpAny M A (m.onRaise k) Q E s:=fun Γ p hΓ g=>by
  rw [Sem.wp_onRaise]
  exact Sem.wp_mono M Γ m (fun _ _ _ h'=>h') (fun e p' s' h'=>h' Γ p' hΓ g) p s (h Γ p hΓ g)
theorem wpAny_attempt {m:Sem α} {Q:Except Value α→Shared→Prop} (h:wpAny M A m (fun a=>Q (.ok a)) (fun e=>Q (.error e)) s) :
    wpAny M A m.attempt Q E s:=fun Γ p hΓ g=>by rw [Sem.wp_attempt];exact h Γ p hΓ g
theorem wpAny_holding {vs:List Value} {m:Sem α} {Q:α→Shared→Prop} (h:wpAny M A m Q E s):wpAny M A (holding vs m) Q E s:=
  fun Γ p hΓ g=>by rw [Sem.wp_holding];exact h Γ p hΓ g
theorem wpAny_keep {vs:List Value} {m:Sem α} {Q:α→Shared→Prop} (h:wpAny M A m Q E s):wpAny M A (m.keep vs) Q E s:=
  fun Γ p hΓ g=>by rw [Sem.wp_keep];exact h Γ p hΓ g
theorem wpAny_operating {vs:List Value} {m:Sem Value} {Q:Value→Shared→Prop} (h:wpAny M A m Q E s):wpAny M A (operate vs m) Q E s:=
  fun Γ p hΓ g=>by rw [Sem.wp_operate];exact h Γ p hΓ g
theorem wpAny_bindName {x:Str} {v:Value} {Q:Unit→Shared→Prop} (h:wpAny M A (storeName env x v) Q E s):wpAny M A (bindName env x v) Q E s:=
  fun Γ p hΓ g=>by rw [Sem.wp_bindName];exact h Γ p hΓ g
theorem wpAny_with_toks {t:Sem α} {Q:α→Shared→Prop} {n:Nat} (hn:n≤s.toks) (h:wpAny M A t (fun a s'=>n≤s'.toks→Q a s') (fun e s'=>n≤s'.toks→E e s') s):wpAny M A t Q E s:=
  fun Γ p hΓ g=>Sem.wp_mono M Γ t (fun _ _ _ x=>x.2 x.1) (fun _ _ _ x=>x.2 x.1) p s (Sem.wp_toks M Γ n t _ _ p s hn (h Γ p hΓ g))
theorem goodEnter {Γ:Ctx} {c:Code} {h:Option Value} {p:Pos} (g:Good Γ):GoodB (Γ.enter c h p):=fun x m=>by
  rcases List.mem_cons.mp m with rfl | m
  · exact g.1
  · exact g.2 x m
theorem codeAny_mono {c:Code} {R R':Result→Shared→Prop} (h:codeAny M A c R s) (hR:∀ r s,R r s→R' r s):codeAny M A c R' s:=
  fun Γ p hc hΓ g=>wpCode_mono hR (h Γ p hc hΓ g)
theorem wpAny_run {c:Code} {h:Option Value} {Q:Flow→Shared→Prop}
    (hc:codeAny M (A.mark h) c (fun r s'=>match r with | .ok f=>Q f s' | .error e=>E e s') s) (hnb:h≠some byPass:=by intro x;cases x):wpAny M A (run c h) Q E s:=
  fun Γ p hΓ g=>by rw [Sem.wp_run];exact hc _ p rfl (hΓ.enter c h p hnb) (goodEnter g)
theorem wpAny_runValue {c:Code} {Q:Value→Shared→Prop} (hc:codeAny M A c (fun r s'=>match r with | .ok (.ret v)=>Q v s' | .ok _=>False | .error e=>E e s') s):wpAny M A (runValue c) Q E s:=
  fun Γ p hΓ g=>by rw [Sem.wp_runValue];exact hc _ p rfl (hΓ.enter c none p (by intro x;cases x)) (goodEnter g)
theorem wpAny_call {f:Value} {pos:List Value} {kw:List (Str × Value)} {Q:Value→Shared→Prop}
    (hc:codeAny M A (.call f ⟨pos,kw⟩) (fun r s'=>match r with | .ok (.ret v)=>Q v s' | .ok _=>False | .error e=>E e s') s):wpAny M A (call f pos kw) Q E s:=wpAny_runValue hc
theorem codeAny_of_tree {c:Code} {R:Result→Shared→Prop} (h:wpAny M (A.under c) (M.den c) (fun fin s'=>match fin with | .done f=>R (.ok f) s' | .again c'=>c'.quiet=true∧codeAny M A c' R s') (fun e s'=>R (.error e) s') s)
    (hb:badCode c=false:=by rfl):codeAny M A c R s:=fun Γ p hc hΓ g=>by
  rw [wpCode_iff_wp,hc]
  refine Sem.wp_mono M Γ _ (fun fin p' s' h'=>?_) (fun _ _ _ h'=>h') p s (h Γ p (hc ▸ hΓ.in) ⟨by rw [hc];exact hb,g⟩)
  cases fin with
  | done f=>exact h'
  | again c'=>exact ⟨h'.1,h'.2 (Γ.goto c') p' rfl (hΓ.goto c') g⟩
noncomputable def cameBackBy (M:Model) (A:Around) (env:Env) (E:Value→Shared→Prop):Value→Shared→Prop:=
  fun x s'=>wpAny M A (do
    if (←field x 1) == .none then unsupported "frame.own-activation:exception-without-traceback"
    setFlight x env.frame) (fun _ s''=>E x s'') E s'
noncomputable def notedBy (M:Model) (A:Around) (env:Env) (E:Value→Shared→Prop):Value→Shared→Prop:=
  fun x s'=>wpAny M A (noteFrame x env) (fun _ s''=>E x s'') E s'
theorem wpAny_runOwn {c:Code} {h:Option Value} {Q:Flow→Shared→Prop}
    (hc:codeAny M (A.mark h) c (fun r s'=>match r with | .ok f=>Q f s' | .error e=>cameBackBy M A env E e s') s) (hnb:h≠some byPass:=by intro x;cases x):wpAny M A (runOwn c env h) Q E s:=by
  unfold runOwn
  exact wpAny_onRaise (wpAny_run hc hnb)
end
noncomputable def wpAny_cellOf {M} {A} {E} {s} {env} {name} {c} {Q} (hc) (h):=up (@PySem.wpAny_cellOf M A E s env name c Q hc h)
noncomputable def wpAny_getItem_list_slice {prog} {w} {A} {E} {s} {l} {sl} {items} {vl} {vu} {vs} {lo} {hi} {st} {Q} (hl) (hs) (pl) (pu) (ps) (h0) (h) (hsz:Array.size items≤sizeLine:=by size_fits):=up (@PySem.wpAny_getItem_list_slice prog w A E s l sl items vl vu vs lo hi st Q hl hs pl pu ps h0 h hsz)
noncomputable def len_bytes {prog} {w} {A} {E} {s} {b} {t} {Q} (hfit) (h):=up (@PySem.W.len_bytes prog w A E s b t Q hfit h)
noncomputable def wpAny_isSame_ref_other {M} {A} {E} {s} {x} {y} {ox} {oy} {R} (hxy) (hx) (hy) (hnt) (h):=up (@PySem.wpAny_isSame_ref_other M A E s x y ox oy R hxy hx hy hnt h)
noncomputable def wpAny_Constant_str {M} {A} {E} {s} {env} {x} {k} {pos} {Q} (h):=up (@PySem.wpAny_Constant_str M A E s env x k pos Q h)
noncomputable def wpAny_execs_nil {M} {A} {E} {s} {env} {Q} (h):=up (@PySem.wpAny_execs_nil M A E s env Q h)
noncomputable def wpAny_nsDel_keeps {M} {A} {E} {s} {a} {m} {name} {Q} (hn) (hQ):=up (@PySem.wpAny_nsDel_keeps M A E s a m name Q hn hQ)
noncomputable def kla_makeFunctionHit {M} {A} {E} {s} {name} {qual} {params} {body} {scope} {env} {c} {P} {ps} {pos} {firstLine} {mg} {clos} {Q} {cv} (hcl) (hge0) (hg) (hcode) (C) (hP) (ht) (hf) (hb) (h):=up (@PySem.W.kla_makeFunctionHit M A E s name qual params body scope env c P ps pos firstLine mg clos Q cv hcl hge0 hg hcode C hP ht hf hb h)
noncomputable def wpAny_pyIter_tuple {prog} {w} {A} {E} {s} {t} {items} {Q} (ht) (hQ):=up (@PySem.wpAny_pyIter_tuple prog w A E s t items Q ht hQ)
noncomputable def wpAny_mkInt {M} {A} {E} {s} {i} {Q} (h):=up (@PySem.wpAny_mkInt M A E s i Q h)
noncomputable def wpAny_pyNext_tuple_item {prog} {w} {A} {E} {s} {it} {t} {i} {items} {x} {Q} (hit) (ht) (hx) (hQ):=up (@PySem.wpAny_pyNext_tuple_item prog w A E s it t i items x Q hit ht hx hQ)
noncomputable def wpAny_loadPart {M} {A} {E} {s} {a} {part} {o} {Q} (ho) (h):=up (@PySem.wpAny_loadPart M A E s a part o Q ho h)
noncomputable def P.le_int {prog} {w} {A} {E} {s} {a} {b} {t} {u} {Q} (h):=up (@PySem.P.le_int prog w A E s a b t u Q h)
noncomputable def wpAny_nsSet1 {M} {A} {E} {s} {a} {m} {name} {v} {Q} (hn) (hQ):=up (@PySem.wpAny_nsSet1 M A E s a m name v Q hn hQ)
noncomputable def wpAny_list_append_plain {prog} {w} {A} {E} {s} {l} {items} {x} {Q} (hl) (hQ) (hsz:Array.size items≤sizeLine:=by size_fits):=up (@PySem.wpAny_list_append_plain prog w A E s l items x Q hl hQ hsz)
noncomputable def wpAny_field {M} {A} {E} {s} {a} {o} {vs} {i} {x} {Q} (ho) (hd) (hi) (h):=up (@PySem.wpAny_field M A E s a o vs i x Q ho hd hi h)
noncomputable def wpAny_setItem_pairs {prog} {w} {K} {inst} {knd} {A} {E} {s} {d} {k} {key} {kvs} {v} {Q} (hkey) (hm) (hQ) (hsz:List.length kvs≤sizeLine:=by size_fits):=up (@PySem.wpAny_setItem_pairs prog w K inst knd A E s d k key kvs v Q hkey hm hQ hsz)
noncomputable def call_bytes_ints {prog} {w} {A} {E} {s} {l} {vs} {ns} {Q} (hl) (hi) (hr) (hz) (hh) (hQ):=up (@PySem.call_bytes_ints prog w A E s l vs ns Q hl hi hr hz hh hQ)
noncomputable def loadGlobal_builtin {M} {A} {E} {s} {env} {x} {mg} {mb} {v} {Q} (hg) (hmiss) (hb) (hv) (h):=up (@PySem.Calls.loadGlobal_builtin M A E s env x mg mb v Q hg hmiss hb hv h)
noncomputable def wpAny_frameEnvs {M} {A} {E} {s} {l} {Q} (hl) (h):=up (@PySem.wpAny_frameEnvs M A E s l Q hl h)
noncomputable def wpAny_newObj_type {M} {A} {E} {s} {T} {data} {dict} {Q} (h) (hd:sizeOk data:=by size_fits):=up (@PySem.wpAny_newObj_type M A E s T data dict Q h hd)
noncomputable def wpAny_isSame_ref_self {M} {A} {E} {s} {x} {R} (h):=up (@PySem.wpAny_isSame_ref_self M A E s x R h)
noncomputable def keq_eq {prog} {w} {K} {inst} {knd} {A} {E} {s} {a} {b} {ka} {kb} {r} {Q} (ha) (hb) (da) (db) (hu) (hits) (h):=up (@PySem.W.keq_eq prog w K inst knd A E s a b ka kb r Q ha hb da db hu hits h)
noncomputable def P.ne_int {prog} {w} {A} {E} {s} {a} {b} {t} {u} {Q} (h):=up (@PySem.P.ne_int prog w A E s a b t u Q h)
noncomputable def wpAny_specialOf {M} {A} {E} {s} {v} {T} {name} {r} {Q} (hT) (h) (hQ):=up (@PySem.wpAny_specialOf M A E s v T name r Q hT h hQ)
noncomputable def wpAny_theTreesLotGoes {M} {A} {E} {s} {x} {Q} (h):=up (@PySem.wpAny_theTreesLotGoes M A E s x Q h)
noncomputable def P.str_of_exc_one {prog} {w} {A} {E} {s} {e} {t0} {X} {n} (FX) (hu) {m} {tk} {Q} (x) (ht) (h):=up (@PySem.P.str_of_exc_one prog w A E s e t0 X n FX hu m tk Q x ht h)
noncomputable def wpAny_letOwnedTupleGo_enum {prog} {w} {A} {E} {s} {elts} {x1} {pos} {e} {it} {a} {i} {item} {Q} (he) (hQ):=up (@PySem.wpAny_letOwnedTupleGo_enum prog w A E s elts x1 pos e it a i item Q he hQ)
noncomputable def getMethod_list_of {prog} {w} {A} {E} {s} {name} {id} {pl} {l} {items} {Q} (slot) (hty) (hl) (hd) (h):=up (@PyProof.Rows.getMethod_list_of prog w A E s name id pl l items Q slot hty hl hd h)
noncomputable def wpAny_seqItems {M} {A} {E} {s} {a} {o} {items} {n} {Q} (ho) (hd) (h):=up (@PySem.wpAny_seqItems M A E s a o items n Q ho hd h)
noncomputable def wpAny_pyNext_enum_item {prog} {w} {A} {E} {s} {e} {it} {l} {i} {items} {x} {old} {Q} (he) (hit) (hl) (hx) (hne) (hQ):=up (@PySem.wpAny_pyNext_enum_item prog w A E s e it l i items x old Q he hit hl hx hne hQ)
noncomputable def wpAny_loadName_local {M} {A} {E} {s} {env} {name} {m} {v} {Q} (hk) (hl) (hn) (hv) (h):=up (@PySem.wpAny_loadName_local M A E s env name m v Q hk hl hn hv h)
noncomputable def wpAny_layCells {M} {A} {E} (f) (hf) (names) (acc) (s) (Q) (a):=up (@PySem.wpAny_layCells M A E f hf names acc s Q a)
noncomputable def wpAny_loadName_free {M} {A} {E} {s} {env} {name} {c} {v} {Q} (hk) (hl) (hc) (hv) (h) (hn:(name == ("__classdict__" : Str))=false:=by decide):=up (@PySem.wpAny_loadName_free M A E s env name c v Q hk hl hc hv h hn)
noncomputable def P.sub_int {prog} {w} {A} {E} {s} {a} {b} {t} {u} {Q} (h):=up (@PySem.P.sub_int prog w A E s a b t u Q h)
noncomputable def wpAny_letTemporaryGo {prog} {w} {A} {E} {s} {base} {o} {r} {Q} (h):=up (@PySem.wpAny_letTemporaryGo prog w A E s base o r Q h)
noncomputable def wpAny_readyFrames_fun {M} {A} {E} {s} {base} {l} {Q} (hl) (h):=up (@PySem.wpAny_readyFrames_fun M A E s base l Q hl h)
noncomputable def wpAny_truthy_bool {M} {A} {E} {s} {b} {Q} (h):=up (@PySem.wpAny_truthy_bool M A E s b Q h)
noncomputable def wpAny_pyNext_tuple_end {prog} {w} {A} {E} {s} {it} {t} {i} {items} {Q} (hh) (hit) (ht) (hx) (hQ):=up (@PySem.wpAny_pyNext_tuple_end prog w A E s it t i items Q hh hit ht hx hQ)
noncomputable def wpAny_enterFrame {M} {A} {E} {s} {Q} (hl) (hd) (h):=up (@PySem.wpAny_enterFrame M A E s Q hl hd h)
noncomputable def wpAny_is_plain {M} {A} {E} {s} {a} {b} {Q} (hp) (h):=up (@PySem.wpAny_is_plain M A E s a b Q hp h)
noncomputable def getItem_bytes {prog} {w} {A} {E} {s} {t} {u} {l} {i} {Q} (hfit) (h0) (h1) (h):=up (@PySem.W.getItem_bytes prog w A E s t u l i Q hfit h0 h1 h)
noncomputable def wpAny_pyIter_range {prog} {w} {A} {E} {s} {r} {a} {b} {c} {t} {u} {v} {Q} (hr) (hsmall) (hQ):=up (@PySem.wpAny_pyIter_range prog w A E s r a b c t u v Q hr hsmall hQ)
noncomputable def wpAny_pyNext_range_end {prog} {w} {A} {E} {s} {it} {x} {left} {step} {Q} (hh) (hit) (hleft) (hQ):=up (@PySem.wpAny_pyNext_range_end prog w A E s it x left step Q hh hit hleft hQ)
noncomputable def call_isinstance {prog} {w} {A} {E} {s} {x} {c} {S} {Q} (g) (h):=up (@PySem.call_isinstance prog w A E s x c S Q g h)
noncomputable def P.gt_int {prog} {w} {A} {E} {s} {a} {b} {t} {u} {Q} (h):=up (@PySem.P.gt_int prog w A E s a b t u Q h)
noncomputable def wpAny_pyIter_list {prog} {w} {A} {E} {s} {l} {items} {Q} (hl) (hQ):=up (@PySem.wpAny_pyIter_list prog w A E s l items Q hl hQ)
noncomputable def wpAny_storeName_local {M} {A} {E} {s} {env} {name} {m} {v} {Q} (hl) (hn) (h) (hp):=up (@PySem.wpAny_storeName_local M A E s env name m v Q hl hn h hp)
noncomputable def call_meets {prog} {w} {A} {E} {s} {T} {name} {id} {B} {self} {rest} {S} {Q} (slot) (hT) (entry) (args) (g) (h):=up (@PySem.call_meets prog w A E s T name id B self rest S Q slot hT entry args g h)
noncomputable def wpAny_point {M} {A} {E} {s} {Q} (h):=up (@PySem.wpAny_point M A E s Q h)
noncomputable def ne_dataH_same {prog} {w} {A} {E} {s} {a} {b} {da} {db} {as} {bs} {Q} (ra) (rb) (ha) (hb) (hu) (hmix) (h):=up (@PyProof.Rows.ne_dataH_same prog w A E s a b da db as bs Q ra rb ha hb hu hmix h)
noncomputable def wpAny_pyNext_range_item {prog} {w} {A} {E} {s} {it} {x} {left} {step} {Q} (hit) (hleft) (hQ):=up (@PySem.wpAny_pyNext_range_item prog w A E s it x left step Q hit hleft hQ)
noncomputable def wpAny_rule {M} {A} {E} {s} {tag} {Q} (h):=up (@PySem.wpAny_rule M A E s tag Q h)
noncomputable def wpAny_pyNext_list_item {prog} {w} {A} {E} {s} {it} {l} {i} {items} {x} {Q} (hit) (hl) (hx) (hQ):=up (@PySem.wpAny_pyNext_list_item prog w A E s it l i items x Q hit hl hx hQ)
noncomputable def ne_str {prog} {w} {A} {E} {s} {x} {y} {t} {u} {Q} (h):=up (@PyProof.Rows.ne_str prog w A E s x y t u Q h)
noncomputable def AutoIntOps.iadd_0 {prog} {w} {A} {E} {s} {a} {b} {t} {u} {Q} (h):=up (@PySem.AutoIntOps.iadd_0 prog w A E s a b t u Q h)
noncomputable def floordiv_int {prog} {w} {A} {E} {s} {a} {b} {t} {u} {Q} (hb) (h) (hp):=up (@PyProof.Rows.floordiv_int prog w A E s a b t u Q hb h hp)
noncomputable def wpAny_pyNext_enum_end {prog} {w} {A} {E} {s} {e} {it} {l} {i} {items} {old} {Q} (hh) (he) (hit) (hl) (hx) (hQ):=up (@PySem.wpAny_pyNext_enum_end prog w A E s e it l i items old Q hh he hit hl hx hQ)
noncomputable def call_list_seq {prog} {w} {A} {E} {s} {Q} (it) {T} {o} {items} {n} (hT) (ho) (hc) (hd) (hQ) (hsz:Array.size items≤sizeLine:=by size_fits):=up (@PySem.call_list_seq prog w A E s Q it T o items n hT ho hc hd hQ hsz)
noncomputable def KBw.pyIter_bytes {prog} {w} {A} {E} {s} {b} {t} {Q} (hQ):=up (@PySem.W.KBw.pyIter_bytes prog w A E s b t Q hQ)
noncomputable def wpAny_isInstance {M} {A} {E} {s} {v} {T} {U} {b} {Q} (hT) (h) (hQ):=up (@PySem.wpAny_isInstance M A E s v T U b Q hT h hQ)
noncomputable def wpAny_newTextTuple {M} {A} {E} {s} {items} {Q} (h):=up (@PySem.wpAny_newTextTuple M A E s items Q h)
noncomputable def wpAny_getItem_list {prog} {w} {A} {E} {s} {l} {items} {k} {t} {x} {Q} (hl) (h0) (hfit) (hx) (h):=up (@PySem.wpAny_getItem_list prog w A E s l items k t x Q hl h0 hfit hx h)
noncomputable def wpAny_load {M} {A} {E} {s} {a} {o} {Q} (ho) (h):=up (@PySem.wpAny_load M A E s a o Q ho h)
noncomputable def KBw.next_item {prog} {w} {A} {E} {s} {b} {t} {it} {i} {c} {Q} (hit) (hx) (hQ):=up (@PySem.W.KBw.next_item prog w A E s b t it i c Q hit hx hQ)
noncomputable def wpAny_nsGet {M} {A} {E} {s} {a} {m} {name} {Q} (hn) (h):=up (@PySem.wpAny_nsGet M A E s a m name Q hn h)
noncomputable def wpAny_mkText {M} {A} {E} {s} {x} {Q} (h):=up (@PySem.wpAny_mkText M A E s x Q h)
noncomputable def wpAny_pyIter_enum {prog} {w} {A} {E} {s} {e} {it} {i} {old} {Q} (he) (h):=up (@PySem.wpAny_pyIter_enum prog w A E s e it i old Q he h)
noncomputable def P.eq_int {prog} {w} {A} {E} {s} {a} {b} {t} {u} {Q} (h):=up (@PySem.P.eq_int prog w A E s a b t u Q h)
noncomputable def wpAny_update {M} {A} {E} {s} {a} {f} {o} {Q} (ho) (h):=up (@PySem.wpAny_update M A E s a f o Q ho h)
noncomputable def mod_int' {prog} {w} {A} {E} {s} {a} {b} {t} {u} {Q} (hb) (h):=up (@PyProof.Rows.mod_int' prog w A E s a b t u Q hb h)
noncomputable def wpAny_alloc {M} {A} {E} {s} {o} {Q} (h):=up (@PySem.wpAny_alloc M A E s o Q h)
noncomputable def call_range_3 {prog} {w} {A} {E} {s} {a} {b} {c} {t} {u} {v} {Q} (hc) (h) (hp):=up (@PySem.call_range_3 prog w A E s a b c t u v Q hc h hp)
noncomputable def call_range_1 {prog} {w} {A} {E} {s} {n} {t} {Q} (h):=up (@PySem.call_range_1 prog w A E s n t Q h)
noncomputable def max_intList {prog} {w} {A} {E} {s} {l} {xs} {Q} (hh) (hl) (hne) (h):=up (@PySem.max_intList prog w A E s l xs Q hh hl hne h)
noncomputable def ki_setAt {prog} {w} {A} {E} {s} {n} {l} {items} {k} {t} {v} {Q} (ho) (h0) (hfit) (hn) (hQ):=up (@PySem.W.ki_setAt prog w A E s n l items k t v Q ho h0 hfit hn hQ)
noncomputable def wpAny_of_eq {α} {M} {A} {E} {s} {t} {a} {Q} (h) (hQ):=up (@PySem.wpAny_of_eq α M A E s t a Q h hQ)
noncomputable def wpAny_builtinsFor {M} {A} {E} {s} {globals} {running} {bm} {m} {o} {Q} (hg) (hb) (hne) (ho) (hcls) (hdict) (hdata) (h):=up (@PySem.wpAny_builtinsFor M A E s globals running bm m o Q hg hb hne ho hcls hdict hdata h)
noncomputable def wpAny_standAt {M} {A} {E} {s} {pos} {Q} (h):=up (@PySem.wpAny_standAt M A E s pos Q h)
noncomputable def eq_dataH_same {prog} {w} {A} {E} {s} {a} {b} {da} {db} {as} {bs} {Q} (ra) (rb) (ha) (hb) (hu) (hmix) (h):=up (@PyProof.Rows.eq_dataH_same prog w A E s a b da db as bs Q ra rb ha hb hu hmix h)
noncomputable def min_intList {prog} {w} {A} {E} {s} {l} {xs} {Q} (hh) (hl) (hne) (h):=up (@PySem.min_intList prog w A E s l xs Q hh hl hne h)
noncomputable def call_range_2 {prog} {w} {A} {E} {s} {a} {b} {t} {u} {Q} (h):=up (@PySem.call_range_2 prog w A E s a b t u Q h)
noncomputable def P.add_list {prog} {w} {A} {E} {s} {l} {b} {items} {items2} {n} {n2} {Q} (hl) (hb) (h) (hsz:Array.size items+Array.size items2≤sizeLine:=by size_fits):=up (@PySem.P.add_list prog w A E s l b items items2 n n2 Q hl hb h hsz)
noncomputable def eq_str {prog} {w} {A} {E} {s} {x} {y} {t} {u} {Q} (h):=up (@PyProof.Rows.eq_str prog w A E s x y t u Q h)
noncomputable def wpAny_askSetting {M} {A} {E} {s} {Q} (h):=up (@PySem.wpAny_askSetting M A E s Q h)
noncomputable def wpAny_dropValue {prog} {w} {A} {E} {s} {e} {pos} {v} {Q} (h):=up (@PySem.wpAny_dropValue prog w A E s e pos v Q h)
noncomputable def loadGlobal_global {M} {A} {E} {s} {env} {x} {mg} {v} {Q} (hg) (hv) (h):=up (@PySem.Calls.loadGlobal_global M A E s env x mg v Q hg hv h)
noncomputable def P.mul_int {prog} {w} {A} {E} {s} {a} {b} {t} {u} {Q} (h) (hm:IntMulOk a b:=by mul_fits):=up (@PySem.P.mul_int prog w A E s a b t u Q h hm)
noncomputable def wpAny_handled {M} {A} {E} {s} {Q} (h):=up (@PySem.wpAny_handled M A E s Q h)
noncomputable def wpAny_typeOf {M} {A} {E} {s} {v} {T} {Q} (h) (hQ):=up (@PySem.wpAny_typeOf M A E s v T Q h hQ)
noncomputable def P.neg_int {prog} {w} {A} {E} {s} {a} {t} {Q} (h):=up (@PySem.P.neg_int prog w A E s a t Q h)
noncomputable def wpAny_setField {M} {A} {E} {s} {a} {o} {vs} {i} {x} {Q} (ho) (hd) (hi) (h):=up (@PySem.wpAny_setField M A E s a o vs i x Q ho hd hi h)
noncomputable def call_len_list {prog} {w} {A} {E} {s} {l} {items} {Q} (hl) (hfit) (h):=up (@PySem.Calls.call_len_list prog w A E s l items Q hl hfit h)
noncomputable def wpAny_draw_tuple {prog} {w} {A} {E} {it} {t} {items} (hne) (n) (i) (s) (Q) (a1) (a2) (a3) (a4):=up (@PySem.wpAny_draw_tuple prog w A E it t items hne n i s Q a1 a2 a3 a4)
noncomputable def wpAny_pyNext_list_end {prog} {w} {A} {E} {s} {it} {l} {i} {items} {Q} (hh) (hit) (hl) (hx) (hQ):=up (@PySem.wpAny_pyNext_list_end prog w A E s it l i items Q hh hit hl hx hQ)
noncomputable def P.add_int {prog} {w} {A} {E} {s} {a} {b} {t} {u} {Q} (h):=up (@PySem.P.add_int prog w A E s a b t u Q h)
noncomputable def wpAny_loadName_cell {M} {A} {E} {s} {env} {name} {c} {v} {Q} (hk) (hl) (hc) (hv) (h):=up (@PySem.wpAny_loadName_cell M A E s env name c v Q hk hl hc hv h)
noncomputable def wpAny_functionCodeX {M} {A} {E} {s} {env} {c} {P} {ps} {pos} {firstLine} {name} {qualname} {p} {scope} {body} {Q} (hc) (hok) (htab) (hnf) (hQ):=up (@PySem.wpAny_functionCodeX M A E s env c P ps pos firstLine name qualname p scope body Q hc hok htab hnf hQ)
noncomputable def call_enumerate_list {prog} {w} {A} {E} {s} {l} {items} {Q} (hL) (h):=up (@PySem.call_enumerate_list prog w A E s l items Q hL h)
noncomputable def wpAny_throw {α} {M} {A} {E} {s} {e} {Q} (h):=up (@PySem.wpAny_throw α M A E s e Q h)
noncomputable def P.lt_int {prog} {w} {A} {E} {s} {a} {b} {t} {u} {Q} (h):=up (@PySem.P.lt_int prog w A E s a b t u Q h)
noncomputable def wpAny_entryPlaceOf {M} {A} {E} {s} {f} {hadNext} {Q} (h):=up (@PySem.wpAny_entryPlaceOf M A E s f hadNext Q h)
noncomputable def wpAny_pure {α} {M} {A} {E} {s} {a} {Q} (h):=up (@PySem.wpAny_pure α M A E s a Q h)
noncomputable def wpAny_getItem_of {prog} {w} {K} {inst} {knd} {A} {E} {s} {d} {k} {key} {f} {v} {Q} (hkey) (hm) (hv) (h):=up (@PySem.wpAny_getItem_of prog w K inst knd A E s d k key f v Q hkey hm hv h)
noncomputable def KBw.next_end {prog} {w} {A} {E} {s} {b} {t} {it} {i} {Q} (hh) (hit) (hx) (hQ):=up (@PySem.W.KBw.next_end prog w A E s b t it i Q hh hit hx hQ)
noncomputable def wpAny_release {M} {A} {E} {s} {vs} {keep} {Q} (h):=up (@PySem.wpAny_release M A E s vs keep Q h)
section
variable {α β:Type} {M:Model} {A:Around} {E:Value→Shared→Prop} {s:Shared} {env:Env} {prog:Program} {w:World} {R:Result→Shared→Prop}
theorem wpAny_noted {m:Sem α} {Q:α→Shared→Prop} (h:wpAny M A m Q (notedBy M A env E) s):wpAny M A (m.onRaise fun x=>do noteFrame x env;theTreesLotGoes x) Q E s:=
  wpAny_onRaise (wpAny_mono h (fun _ _ q=>q) fun _ _ hx=>wpAny_bind (wpAny_mono hx (fun _ _ e=>wpAny_theTreesLotGoes e) fun _ _ e=>e))
theorem codeAny_builtin {id:String} {args:Args} {b:Builtin} (hb:entryFor table id=some b)
    (h:wpAny (model prog w) (A.under (.builtin id args)) (b args) (fun fin s'=>match fin with | .done f=>R (.ok f) s' | .again c'=>c'.quiet=true∧codeAny (model prog w) A c' R s') (fun e s'=>R (.error e) s') s)
    (hg:badIds.contains id=false:=by decide +kernel):codeAny (model prog w) A (.builtin id args) R s:=by
  refine codeAny_of_tree ?_ hg
  show wpAny _ _ (match entryFor table id with | some b=>b args | none=>unsupported ((withoutEnding? id "#data").getD id)) _ _ s
  rw [hb];exact h
theorem codeAny_func {body:List Stmt}
    (h : wpAny (model prog w) (A.deeper env) (execs body env) (fun f s'=>R (.ok (.ret (match f with | .ret v=>v | _=>.none))) s')
      (fun e s'=>wpAny (model prog w) (A.deeper env) (leaving env e) (fun _ s''=>R (.error e) s'') (fun e' s''=>R (.error e') s'') s') s):codeAny (model prog w) A (.func body env) R s:=by
  refine codeAny_of_tree ?_
  show wpAny _ (A.deeper env) (do point;match ←(execs body env).onRaise (leaving env) with | .ret v=>ret v | _=>ret .none) _ _ s
  refine wpAny_bind (wpAny_point (wpAny_bind (wpAny_onRaise (wpAny_mono h (fun f s' h'=>?_) fun _ _ h'=>h'))))
  cases f <;> exact wpAny_pure h'
theorem kla_codeExpr {e:Expr} (h:wpAny (model prog w) (A.deeper env) (eval e env) (fun v s'=>R (.ok (.ret v)) s')
      (fun e' s'=>wpAny (model prog w) (A.deeper env) (leaving env e') (fun _ s''=>R (.error e') s'') (fun e'' s''=>R (.error e'') s'') s') s):codeAny (model prog w) A (.expr e env) R s:=by
  refine codeAny_of_tree ?_
  show wpAny _ (A.deeper env) (do point;ret (←(eval e env).onRaise (leaving env))) _ _ s
  exact wpAny_bind (wpAny_point (wpAny_bind (wpAny_onRaise (wpAny_mono h (fun v s' h'=>wpAny_pure h') fun _ _ h'=>h'))))
theorem codeAny_block {stmts:List Stmt} (h:wpAny (model prog w) A (execs stmts env) (fun f s'=>R (.ok f) s') (notedBy (model prog w) A env fun e s'=>R (.error e) s') s):codeAny (model prog w) A (.block stmts env) R s:=by
  refine codeAny_of_tree ?_
  show wpAny _ _ (do return PySem.Fin.done (←(execs stmts env).onRaise (fun x=>do noteFrame x env;theTreesLotGoes x))) _ _ s
  exact wpAny_bind (wpAny_noted (wpAny_mono h (fun f s' h'=>wpAny_pure h') fun _ _ h'=>h'))
theorem codeAny_call_function {a:Addr} {args:Args} {o:Obj} {fd:FuncData} {body:List Stmt} (hroom:A.depth < recursionLimit) (ho:s.heap.get? a=some o)
    (hd':o.data = .func fd) (hco:fd.scope.isCoroutine=false) (hgen:fd.scope.isGenerator=false) (hbody:fd.body = .stmts body) (hcd:s.heap.CodeRec fd.code fd.qualname)
    (h : wpAny (model prog w) A.in1 (bindArgs fd args) (fun binds s₁ =>
      wpAny (model prog w) A.in1 (newFunctionEnv fd.scope fd.globals fd.closure binds (fd.qualname ++ ".<locals>.") (some a) fd.code none fd.builtins)
        (fun env s₂=>s₂.heap.NoLimit∧codeAny (model prog w) A (.func body env) R s₂) (fun e s'=>R (.error e) s') s₁) (fun e s'=>R (.error e) s') s) :
    codeAny (model prog w) A (.call (.ref a) args) R s:=by
  refine codeAny_of_tree ?_
  show wpAny _ A.in1 (callAny (.ref a) args) _ _ s
  simp only [callAny]
  refine wpAny_bind (wpAny_load ho ?_)
  obtain ⟨c,oc,vs,tq,hc,hoc,hdc,hq⟩:=hcd
  simp only [hd',callFunction,hco,hgen,hbody,hc]
  rw [hc] at h
  refine wpAny_bind (m:=field (.ref c) 1) (wpAny_field hoc hdc hq (wpAny_bind (wpAny_pure ?_)))
  exact wpAny_bind (wpAny_mono h (fun binds s₁ h₁=>wpAny_bind (wpAny_mono h₁ (fun env s₂ h₂=>wpAny_bind (wpAny_enterFrame h₂.1 hroom (wpAny_pure (And.intro rfl h₂.2)))) fun _ _ h'=>h')) fun _ _ h'=>h')
theorem kla_callFunE {a:Addr} {args:Args} {o:Obj} {fd:FuncData} {body:Expr} (hroom:A.depth < recursionLimit) (ho:s.heap.get? a=some o)
    (hd':o.data = .func fd) (hco:fd.scope.isCoroutine=false) (hgen:fd.scope.isGenerator=false) (hbody:fd.body = .expr body) (hcd:s.heap.CodeRec fd.code fd.qualname)
    (h : wpAny (model prog w) A.in1 (bindArgs fd args) (fun binds s₁ =>
      wpAny (model prog w) A.in1 (newFunctionEnv fd.scope fd.globals fd.closure binds (fd.qualname ++ ".<locals>.") (some a) fd.code none fd.builtins)
        (fun env s₂=>s₂.heap.NoLimit∧codeAny (model prog w) A (.expr body env) R s₂) (fun e s'=>R (.error e) s') s₁) (fun e s'=>R (.error e) s') s) :
    codeAny (model prog w) A (.call (.ref a) args) R s:=by
  refine codeAny_of_tree ?_
  show wpAny _ A.in1 (callAny (.ref a) args) _ _ s
  simp only [callAny]
  refine wpAny_bind (wpAny_load ho ?_)
  obtain ⟨c,oc,vs,tq,hc,hoc,hdc,hq⟩:=hcd
  simp only [hd',callFunction,hco,hgen,hbody,hc]
  rw [hc] at h
  refine wpAny_bind (m:=field (.ref c) 1) (wpAny_field hoc hdc hq (wpAny_bind (wpAny_pure ?_)))
  exact wpAny_bind (wpAny_mono h (fun binds s₁ h₁=>wpAny_bind (wpAny_mono h₁ (fun env s₂ h₂=>wpAny_bind (wpAny_enterFrame h₂.1 hroom (wpAny_pure (And.intro rfl h₂.2)))) fun _ _ h'=>h')) fun _ _ h'=>h')
theorem wpAny_execs_cons {st rest} {Q:Flow→Shared→Prop} (h:wpAny M A (exec st env) (fun f s'=>match f with | .next=>wpAny M A (execs rest env) Q E s' | f=>Q f s') E s) :
    wpAny M A (execs (st :: rest) env) Q E s:=fun Γ p hΓ g=>by
  rw [execs_cons,Sem.wp_bind']
  refine Sem.wp_mono M Γ _ (fun f p' s' h'=>?_) (fun _ _ _ h'=>h') _ _ (h Γ p hΓ g)
  cases f <;> first | exact h' Γ p' hΓ g | exact h'
theorem wpAny_Return_some {e pos} {Q:Flow→Shared→Prop} (h:wpAny M A (eval e env) (fun v=>Q (.ret v)) E s):wpAny M A (exec (.Return (some e) pos) env) Q E s:=fun Γ p hΓ g=>by
  simp only [exec_Return_some,Sem.wp_bind',Sem.wp_cmd_standAt,Sem.wp_pure'];exact h Γ _ hΓ g
theorem wpAny_evalAll_cons {x:Sem Value} {rest:List (Sem Value)} {Q:List Value→Shared→Prop} (h:wpAny M A x (fun v s₁=>wpAny M A (evalAll rest) (fun vs s₂=>Q (v :: vs) s₂) E s₁) E s):wpAny M A (evalAll (x :: rest)) Q E s:=by
  rw [evalAll]
  exact wpAny_bind (wpAny_mono h (fun v s₁ h₁=>wpAny_bind (wpAny_holding (wpAny_mono h₁ (fun vs s₂ h₂=>wpAny_pure h₂) fun _ _ x=>x))) fun _ _ x=>x)
theorem spliced_cons {x:Sem Value} {rest:List (Bool × Sem Value)} {Q:List Value→Shared→Prop} (h:wpAny M A x (fun v s₁=>wpAny M A (spliced rest) (fun vs s₂=>Q (v :: vs) s₂) E s₁) E s):wpAny M A (spliced ((false,x) :: rest)) Q E s:=by
  rw [spliced]
  refine wpAny_bind (wpAny_mono h (fun v s₁ h₁=>?_) fun _ _ x=>x)
  simp only [Bool.false_eq_true,if_false]
  exact wpAny_bind (wpAny_pure (wpAny_bind (wpAny_holding (wpAny_mono h₁ (fun vs s₂ h₂=>wpAny_pure h₂) fun _ _ x=>x))))
theorem evalArgs_plain {f:Value} {x:Sem Value} {rest:List (Bool × Sem Value)} {Q:Args→Shared→Prop} (h:wpAny M A (spliced ((false,x) :: rest)) (fun vs s'=>Q ⟨vs,[]⟩ s') E s):wpAny M A (evalArgs f true ((false,x) :: rest) []) Q E s:=by
  unfold evalArgs
  show wpAny M A (spliced ((false,x) :: rest) >>= _) Q E s
  refine wpAny_bind (wpAny_mono h (fun vs s' h'=>?_) fun _ _ x=>x)
  refine wpAny_holding ?_
  exact wpAny_bind (wpAny_pure (wpAny_bind (wpAny_pure (wpAny_pure h'))))
theorem evalArgs_kw {f:Value} {x:Sem Value} {rest:List (Bool × Sem Value)} {keywords:List (Option Str × Sem Value)} {Q:Args→Shared→Prop} (hall:keywords.all (·.1.isSome)=true)
    (h:wpAny M A (spliced ((false,x) :: rest)) (fun vs s₁=>wpAny M A (evalAll (keywords.map (·.2))) (fun ks s₂=>Q ⟨vs,(keywords.filterMap (·.1)).zip ks⟩ s₂) E s₁) E s) :
    wpAny M A (evalArgs f true ((false,x) :: rest) keywords) Q E s:=by
  unfold evalArgs
  show wpAny M A (spliced ((false,x) :: rest) >>= _) Q E s
  refine wpAny_bind (wpAny_mono h (fun vs s₁ h₁=>?_) fun _ _ x=>x)
  refine wpAny_holding ?_
  simp only [hall,if_true]
  refine wpAny_bind (wpAny_mono h₁ (fun ks s₂ h₂=>?_) fun _ _ x=>x)
  exact wpAny_bind (wpAny_pure (wpAny_pure h₂))
theorem wpAny_While {test body orelse pos} {Q:Flow→Shared→Prop} (h:codeAny M A (.whileLoop test body orelse env) (fun r s'=>match r with | .ok f=>Q f s' | .error e=>cameBackBy M A env E e s') s):wpAny M A (exec (.While test body orelse pos) env) Q E s:=by
  rw [exec_While];exact wpAny_bind (wpAny_standAt (wpAny_runOwn h))
theorem wpAny_For {target iter body orelse pos} {Q:Flow→Shared→Prop}
    (h:wpAny M A (eval iter env) (fun x s₁=>wpAny M A (pyIter x) (fun it s₂=>codeAny M A (.forLoop target it body orelse env) (fun r s'=>match r with | .ok f=>Q f s' | .error e=>cameBackBy M A env E e s') s₂) E s₁) E s)
    (hs:∀ x,foldedSetIterable iter env x=pure x:=by intro _;rfl):wpAny M A (exec (.For target iter body orelse pos) env) Q E s:=by
  rw [exec_For]
  exact wpAny_bind (wpAny_standAt (wpAny_bind (wpAny_mono h (fun x s₁ h₁=>wpAny_bind (wpAny_of_eq (hs x) (wpAny_bind (wpAny_standAt (wpAny_bind (wpAny_holding
    (wpAny_mono h₁ (fun it s₂ h₂=>wpAny_runOwn h₂) fun _ _ h'=>h'))))))) fun _ _ h'=>h')))
theorem wpAny_If {test body orelse pos} {Q:Flow→Shared→Prop} (h:wpAny M A (isTrue test env (eval test env)) (fun b s₂=>if b then wpAny M A (execs body env) Q E s₂ else wpAny M A (execs orelse env) Q E s₂) E s) :
    wpAny M A (exec (.If test body orelse pos) env) Q E s:=fun Γ p hΓ g=>by
  simp only [exec_If,Sem.wp_bind',Sem.wp_cmd_standAt]
  refine Sem.wp_mono M Γ _ (fun b p₂ s₂ h₂=>?_) (fun _ _ _ h'=>h') _ _ (h Γ _ hΓ g)
  cases b <;> exact h₂ Γ p₂ hΓ g
theorem wpAny_AugAssign_Name {x pos' op value pos} {Q:Flow→Shared→Prop}
    (h:wpAny M A (loadName env x) (fun old s₁=>wpAny M A (eval value env) (fun v s₂=>wpAny M A (inplaceOp op old v) (fun r s₃=>wpAny M A (storeName env x r) (fun _=>Q .next) E s₃) E s₂) E s₁) E s) :
    wpAny M A (exec (.AugAssign (.Name x pos') op value pos) env) Q E s:=fun Γ p hΓ g=>by
  simp only [exec_AugAssign_Name,Sem.wp_bind',Sem.wp_holding,Sem.wp_cmd_standAt,Sem.wp_operate,Sem.wp_bindName,Sem.wp_pure']
  exact Sem.wp_mono M Γ _ (fun old p₁ s₁ h₁=>Sem.wp_mono M Γ _ (fun v _ s₂ h₂=>Sem.wp_mono M Γ _ (fun r _ s₃ h₃=>h₃ Γ _ hΓ g)
    (fun _ _ _ h'=>h') _ _ (h₂ Γ _ hΓ g)) (fun _ _ _ h'=>h') _ _ (h₁ Γ p₁ hΓ g)) (fun _ _ _ h'=>h') _ _ (h Γ _ hΓ g)
theorem wpAny_AugAssign_SubscriptAny {o i value:Expr} {tpos pos:Pos} {op:Operator} {Q:Flow→Shared→Prop}
    (h : wpAny M A (eval o env) (fun ov s₁=>wpAny M A (eval i env) (fun iv s₂=>wpAny M A (getItem ov iv) (fun old s₃=>wpAny M A (eval value env) (fun v s₄=>wpAny M A (inplaceOp op old v) (fun new s₅ =>
            wpAny M A (setItem ov iv new) (fun _=>Q .next) E s₅) E s₄) E s₃) E s₂) E s₁) E s)
    (hi:∀ ov iv new,augStore i ov iv new=(do holding [new,ov,iv] (setItem ov iv new);release [new,ov,iv] [];pure .next):=by intros;rfl) :
    wpAny M A (exec (.AugAssign (.Subscript o i tpos) op value pos) env) Q E s:=by
  have e : exec (.AugAssign (.Subscript o i tpos) op value pos) env=(do
      standAt pos
      let ov ←eval o env
      let iv ←holding [ov] (eval i env)
      let new ←holding [ov,iv] do
        standAt tpos
        let old ←getItem ov iv
        let v ←holding [old] (eval value env)
        standAt pos
        operate [old,v] (inplaceOp op old v)
      standAt tpos
      augStore i ov iv new):=rfl
  rw [e]
  refine wpAny_bind (wpAny_standAt (wpAny_bind (wpAny_mono h (fun ov s₁ h₁=>?_) fun _ _ x=>x)))
  refine wpAny_bind (wpAny_holding (wpAny_mono h₁ (fun iv s₂ h₂=>?_) fun _ _ x=>x))
  refine wpAny_bind (wpAny_holding (wpAny_bind (wpAny_standAt (wpAny_bind (wpAny_mono h₂ (fun old s₃ h₃=>?_) fun _ _ x=>x)))))
  refine wpAny_bind (wpAny_holding (wpAny_mono h₃ (fun v s₄ h₄=>?_) fun _ _ x=>x))
  refine wpAny_bind (wpAny_standAt (wpAny_operating (wpAny_mono h₄ (fun new s₅ h₅=>?_) fun _ _ x=>x)))
  refine wpAny_bind (wpAny_standAt ?_)
  rw [hi]
  exact wpAny_bind (wpAny_holding (wpAny_mono h₅ (fun _ _ h₆=>wpAny_bind (wpAny_release (wpAny_pure h₆))) fun _ _ x=>x))
theorem wpAny_Expr_any {e pos} {Q:Flow→Shared→Prop} (h:wpAny (model prog w) A (eval e env) (fun _=>Q .next) E s) (hi:interactive env=false:=by rfl) (hs:swapsWith e none pos.line env=pure false:=by rfl) :
    wpAny (model prog w) A (exec (.Expr e pos) env) Q E s:=by
  rw [exec_Expr env e pos hi hs]
  exact wpAny_bind (wpAny_standAt (wpAny_bind (wpAny_mono h (fun v s' h'=>wpAny_dropValue h') fun _ _ x=>x)))
theorem wpAny_Name {x pos} {Q:Value→Shared→Prop} (h:wpAny M A (loadName env x) Q E s) (hd:(x == ("__debug__" : Str))=false:=by decide):wpAny M A (eval (.Name x pos) env) Q E s:=by
  rw [eval_Name env x pos hd]
  exact wpAny_bind (wpAny_standAt h)
theorem wpAny_assign_Name {x pos v} {Q:Unit→Shared→Prop} (h:wpAny M A (storeName env x v) Q E s):wpAny M A (assign (.Name x pos) env v) Q E s:=by
  rw [PySem.assign_Name];exact wpAny_bind (wpAny_standAt (wpAny_bindName h))
theorem wpAny_isTrue_Compare1 {l op r pos whole} {Q:Bool→Shared→Prop}
    (h:wpAny M A (eval l env) (fun a s₁=>wpAny M A (eval r env) (fun b s₂=>wpAny M A (compareOp op a b) (fun c s₃=>wpAny M A (truthy c) Q E s₃) E s₂) E s₁) E s)
    (hm:behindInMarks op r=false:=by with_unfolding_all rfl):wpAny M A (isTrue (.Compare l [op] [r] pos) env whole) Q E s:=fun Γ p hΓ g=>by
  simp only [isTrue_Compare1,markedBehindIn_of_false hm,Sem.wp_bind',Sem.wp_holding,Sem.wp_cmd_standAt,Sem.wp_operate]
  exact Sem.wp_mono M Γ _ (fun a p₁ s₁ h₁=>Sem.wp_mono M Γ _ (fun b _ s₂ h₂=>Sem.wp_mono M Γ _ (fun c p₃ s₃ h₃=>h₃ Γ p₃ hΓ g)
    (fun _ _ _ h'=>h') _ _ (h₂ Γ _ hΓ g)) (fun _ _ _ h'=>h') _ _ (h₁ Γ p₁ hΓ g)) (fun _ _ _ h'=>h') _ _ (h Γ p hΓ g)
theorem callWith_builtin {pos:Pos} {id:String} {first:List Value} {args:List (Bool × Sem Value)} {Q:Value→Shared→Prop} (hplain:args.any (·.1)=false)
    (h:wpAny M A (evalArgs (.builtin id) true args []) (fun a s₁=>wpAny M A (call (.builtin id) (first++a.pos) a.kw) Q E s₁) E s):wpAny M A (callWith pos (.builtin id) first args []) Q E s:=by
  unfold callWith
  refine wpAny_bind (wpAny_holding (wpAny_mono h (fun a s₁ h₁=>wpAny_bind (wpAny_standAt ?_)) fun _ _ x=>x))
  simp only [hplain,List.any_nil,Bool.or_false]
  refine wpAny_bind (wpAny_pure ?_)
  exact wpAny_bind (wpAny_mono h₁ (fun r s₂ hr=>wpAny_bind (wpAny_holding (wpAny_point (wpAny_pure hr)))) fun _ _ x=>x)
theorem kla_eval {Q:Value→Shared→Prop} {params:Arguments} {body:Expr} {scope:Scope} {pos:Pos} (hdef:defaultsOf params env=([],[])) (h:wpAny M A (makeFunction "<lambda>" (env.qual ++ "<lambda>") params (.expr body) scope env [] [] [] pos pos.line) Q E s) :
    wpAny M A (eval (.Lambda params body scope pos) env) Q E s:=by
  rw [arm_eval_Lambda,hdef]
  show wpAny M A (do let dv ←evalAll [];let kdv ←holding dv (evalAllOpt []);makeFunction "<lambda>" (env.qual ++ "<lambda>") params (.expr body) scope env dv kdv [] pos pos.line) Q E s
  exact wpAny_bind (wpAny_pure (wpAny_bind (wpAny_holding (wpAny_pure h))))
theorem tail_any {value slice:Expr} {o i:Value} {ops:List Value} {T id:String} {Q:Value→Shared→Prop} (hT:s.TypeIs o T)
    (hl:typeLookup (.type T) "__getitem__" = pure (some (.builtin id))) (hg:wpAny (model prog w) A (getItem o i) Q E s) (hs:subscripted slice false o i=operate ops (getItem o i)):wpAny (model prog w) A (subscriptTail value slice o i) Q E s:=by
  unfold subscriptTail
  refine wpAny_bind ?_
  rw [getitemInPython_of_ne hT.not_modules]
  refine wpAny_bind (wpAny_specialOf hT hl ?_)
  have fin:wpAny (model prog w) A (subscripted slice false o i) (fun r s₃=>wpAny (model prog w) A (letTemporaryGo value o r >>= fun _=>pure r) Q E s₃) E s:=by
    rw [hs]
    exact wpAny_operating (wpAny_mono hg (fun r s₃ h₃=>wpAny_bind (wpAny_letTemporaryGo (wpAny_pure h₃))) fun _ _ x=>x)
  first
    | exact wpAny_pure (wpAny_bind fin)
    | exact wpAny_bind (wpAny_pure (wpAny_bind fin))
    | exact wpAny_bind fin
theorem wpAny_Try_except {body orelse:List Stmt} {h₀:ExceptHandler} {hs:List ExceptHandler} {pos:Pos} {Q:Flow→Shared→Prop}
    (h : wpAny (model prog w) A (execs body env) (fun f s₁=>match f with | .next=>wpAny (model prog w) A (execs orelse env) Q E s₁ | f=>Q f s₁)
      (fun e s₁=>wpAny (model prog w) A (noteFrame e env) (fun _ s₂=>wpAny (model prog w) A (setFlight e none) (fun _ s₃=>wpAny (model prog w) A (handleBy e env (h₀ :: hs)) Q E s₃) E s₂) E s₁) s) :
    wpAny (model prog w) A (exec (.Try body (h₀ :: hs) orelse [] pos) env) Q E s:=by
  rw [arm_exec_Try]
  refine wpAny_bind (wpAny_standAt ?_)
  unfold tryStmt
  simp only [List.isEmpty_nil,if_true,List.isEmpty_cons,Bool.false_and,Bool.false_eq_true,if_false]
  refine wpAny_bind (wpAny_attempt (wpAny_mono h (fun f s₁ h₁=>?_) fun e s₁ h₁=>?_))
  · cases f <;> first | exact h₁ | exact wpAny_pure h₁
  · exact wpAny_bind (wpAny_mono h₁ (fun _ _ h₂=>wpAny_bind h₂) fun _ _ x=>x)
theorem wpAny_handleBy_cons {e:Value} {t:Expr} {name:Option Str} {body:List Stmt} {pos:Pos} {rest:List ExceptHandler} {Q:Flow→Shared→Prop}
    (h : codeAny M (A.mark (some e)) (.handlers e [.ExceptHandler (some t) none [] pos] env) (fun r s₁=>match r with
      | .ok .brk=>codeAny M (A.mark (some e)) (.handlers e [.ExceptHandler none name body pos] env) (fun r s₂=>match r with
          | .ok f=>(match name with
            | none=>Q f s₂
            | some n=>wpAny M A (do bindName env n .none;unbindBehindTheSuite env n pos) (fun _ s₃=>Q f s₃) E s₂)
          | .error x=>cameBackBy M A env E x s₂) s₁
      | .ok _=>wpAny M A (handleBy e env rest) Q E s₁
      | .error x=>cameBackBy M A env E x s₁) s) (hnb:e≠byPass):wpAny M A (handleBy e env (.ExceptHandler (some t) name body pos :: rest)) Q E s:=by
  rw [handleBy]
  have hnb':(some e:Option Value)≠some byPass:=fun x=>hnb (Option.some.inj x)
  refine wpAny_bind (wpAny_holding (wpAny_runOwn (codeAny_mono h (fun r s₁ h₁=>?_)) hnb'))
  cases r with
  | error x=>exact h₁
  | ok f =>
    cases f with
    | brk =>
      refine wpAny_bind (wpAny_pure ?_)
      simp only [Bool.not_true,Bool.false_eq_true,if_false]
      refine wpAny_bind (wpAny_holding (wpAny_runOwn (codeAny_mono h₁ (fun r s₂ h₂=>?_)) hnb'))
      cases r with
      | error x=>exact h₂
      | ok f =>
        cases name with
        | none=>exact wpAny_pure h₂
        | some n=>exact wpAny_bind (wpAny_holding (wpAny_mono h₂ (fun _ s₃ h₃=>wpAny_pure h₃) fun _ _ x=>x))
    | _ =>
      refine wpAny_bind (wpAny_pure ?_)
      simp only [Bool.not_false,if_true]
      exact h₁
theorem codeAny_handlers_test {e:Value} {t:Expr} {pos:Pos}
    (h : wpAny (model prog w) A (eval t env) (fun c s₁=>wpAny (model prog w) A (excMatches e c) (fun b s₂=>R (.ok (if b then .brk else .next)) s₂) (notedBy (model prog w) A env fun x s₂=>R (.error x) s₂) s₁)
      (notedBy (model prog w) A env fun x s₁=>R (.error x) s₁) s):codeAny (model prog w) A (.handlers e [.ExceptHandler (some t) none [] pos] env) R s:=by
  refine codeAny_of_tree ?_
  show wpAny _ A (do return PySem.Fin.done (←(handleWith e env [.ExceptHandler (some t) none [] pos]).onRaise (fun x=>do noteFrame x env;theTreesLotGoes x))) _ _ s
  refine wpAny_bind (wpAny_noted ?_)
  unfold handleWith
  refine wpAny_bind (wpAny_standAt (wpAny_bind (wpAny_mono h (fun c s₁ h₁=>wpAny_bind (wpAny_standAt (wpAny_bind (wpAny_mono h₁ (fun b s₂ h₂=>wpAny_pure (wpAny_pure ?_)) fun _ _ x=>x)))) fun _ _ x=>x)))
  exact h₂
theorem codeAny_handlers_suite_as {e:Value} {n:Str} {b₀:Stmt} {body:List Stmt} {pos:Pos}
    (h : wpAny (model prog w) A (setFlight e none) (fun _ s₁=>wpAny (model prog w) A (storeName env n e) (fun _ s₂ =>
        wpAny (model prog w) A (execs (b₀ :: body) env) (fun f s₃=>R (.ok f) s₃)
          (fun x s₃=>wpAny (model prog w) A (noteFrame x env) (fun _ s₃' =>
            wpAny (model prog w) A (do bindName env n .none;unbindBehindTheSuite env n pos)
              (fun _ s₄=>wpAny (model prog w) A (passOn "try.except-as" x env:Sem Flow) (fun _ _=>False) (notedBy (model prog w) A env fun x s'=>R (.error x) s') s₄)
              (fun y s₄=>wpAny (model prog w) A (setFlight x none) (fun _ s₅=>(notedBy (model prog w) A env fun x s'=>R (.error x) s') y s₅) (notedBy (model prog w) A env fun x s'=>R (.error x) s') s₄) s₃') (notedBy (model prog w) A env fun x s'=>R (.error x) s') s₃) s₂)
        (notedBy (model prog w) A env fun x s'=>R (.error x) s') s₁) (notedBy (model prog w) A env fun x s'=>R (.error x) s') s) :
    codeAny (model prog w) A (.handlers e [.ExceptHandler none (some n) (b₀ :: body) pos] env) R s:=by
  refine codeAny_of_tree ?_
  show wpAny _ A (do return PySem.Fin.done (←(handleWith e env [.ExceptHandler none (some n) (b₀ :: body) pos]).onRaise (fun x=>do noteFrame x env;theTreesLotGoes x))) _ _ s
  refine wpAny_bind (wpAny_noted ?_)
  unfold handleWith
  refine wpAny_bind (wpAny_standAt (wpAny_bind (wpAny_mono h (fun _ s₁ h₁=>?_) fun _ _ x=>x)))
  refine wpAny_bind (wpAny_bindName (wpAny_mono h₁ (fun _ s₂ h₂=>?_) fun _ _ x=>x))
  refine wpAny_bind (wpAny_attempt (wpAny_mono h₂ (fun f s₃ h₃=>wpAny_pure (wpAny_pure h₃)) fun x s₃ h₃=>?_))
  refine wpAny_bind (wpAny_mono h₃ (fun _ s₃' h₄=>?_) fun _ _ y=>y)
  refine wpAny_bind (wpAny_holding (wpAny_onRaise (wpAny_mono h₄ (fun _ s₄ h₅=>?_) fun _ _ y=>y)))
  exact wpAny_mono h₅ (fun _ _ hf=>hf.elim) fun _ _ y=>y
theorem wpAny_handleBy_builtin_as {e:Addr} {X T:String} {b:Bool} {t:Expr} {n:Str} {b₀:Stmt} {suite:List Stmt} {pos:Pos} {rest:List ExceptHandler} {Q:Flow→Shared→Prop}
    (hexc:isSubtype (.type T) (.type "BaseException")=pure true) (hnt:isSubtype (.type ((Manifest.find? T).elim "type" fun x=>x.metatype)) (.type "tuple")=pure false)
    (hsub:isSubtype (.type X) (.type T)=pure b)
    (h : wpAny (model prog w) (A.mark (some (.ref e))) (eval t env) (fun c s₁=>c = .type T∧s₁.TypeIs (.ref e) X ∧
      if b then wpAny (model prog w) (A.mark (some (.ref e))) (setFlight (.ref e) none) (fun _ s₂ =>
          wpAny (model prog w) (A.mark (some (.ref e))) (storeName env n (.ref e)) (fun _ s₃ =>
            wpAny (model prog w) (A.mark (some (.ref e))) (execs (b₀ :: suite) env)
              (fun f s₄=>wpAny (model prog w) A (do bindName env n .none;unbindBehindTheSuite env n pos) (fun _ s₅=>Q f s₅) E s₄)
              (fun x s₄=>wpAny (model prog w) (A.mark (some (.ref e))) (noteFrame x env) (fun _ s₄' =>
                wpAny (model prog w) (A.mark (some (.ref e))) (do bindName env n .none;unbindBehindTheSuite env n pos)
                  (fun _ s₅=>wpAny (model prog w) (A.mark (some (.ref e))) (passOn "try.except-as" x env:Sem Flow) (fun _ _=>False) (notedBy (model prog w) (A.mark (some (.ref e))) env (cameBackBy (model prog w) A env E)) s₅)
                  (fun y s₅=>wpAny (model prog w) (A.mark (some (.ref e))) (setFlight x none) (fun _ s₆=>(notedBy (model prog w) (A.mark (some (.ref e))) env (cameBackBy (model prog w) A env E)) y s₆) (notedBy (model prog w) (A.mark (some (.ref e))) env (cameBackBy (model prog w) A env E)) s₅) s₄') (notedBy (model prog w) (A.mark (some (.ref e))) env (cameBackBy (model prog w) A env E)) s₄) s₃) (notedBy (model prog w) (A.mark (some (.ref e))) env (cameBackBy (model prog w) A env E)) s₂) (notedBy (model prog w) (A.mark (some (.ref e))) env (cameBackBy (model prog w) A env E)) s₁
      else wpAny (model prog w) A (handleBy (.ref e) env rest) Q E s₁) (notedBy (model prog w) (A.mark (some (.ref e))) env (cameBackBy (model prog w) A env E)) s) :
    wpAny (model prog w) A (handleBy (.ref e) env (.ExceptHandler (some t) (some n) (b₀ :: suite) pos :: rest)) Q E s:=by
  refine wpAny_handleBy_cons (codeAny_handlers_test (wpAny_mono h (fun c s₁ h₁=>?_) fun _ _ x=>x)) (by intro q;cases q)
  obtain ⟨rfl,hX,hk⟩:=h₁
  refine up (wpAny_excMatches_type hX hexc hnt hsub ?_)
  cases b with
  | true=>exact codeAny_handlers_suite_as hk
  | false=>exact hk
theorem codeAny_call_builtin {id:String} {args:Args} {b:Builtin} (hq:plainId id=true) (hb:entryFor table id=some b)
    (h : wpAny (model prog w) A.in1 (checkBuiltinCall id args) (fun _ s₁=>wpAny (model prog w) A.in1 (b args)
      (fun fin s'=>match fin with | .done f=>R (.ok f) s' | .again c'=>c'.quiet=true∧codeAny (model prog w) A c' R s') (fun e s'=>R (.error e) s') s₁)
      (fun e s'=>R (.error e) s') s) (hg:badIds.contains id=false:=by decide +kernel):codeAny (model prog w) A (.call (.builtin id) args) R s:=by
  refine codeAny_of_tree ?_
  show wpAny _ A.in1 (do checkBuiltinCall id args;again (.builtin id args)) _ _ s
  refine wpAny_bind (wpAny_mono h (fun _ s₁ h₁=>wpAny_pure (And.intro (plainId_quiet hq args) (codeAny_builtin hb ?_ hg))) fun _ _ h'=>h')
  rw [Around.under_plainId hq args];exact h₁
theorem wpAny_call_entry {T:String} {name:Str} {id:String} {b:Builtin} {self:Value} {rest:List Value} {Q:Value→Shared→Prop} (h:Slot T name id) (hT:s.TypeIs self T) (hb:entryFor table id=some b)
    (hc:wpAny (model prog w) A.in1 (b ⟨self :: rest,[]⟩) (fun fin s'=>∃ v,fin = .done (.ret v)∧Q v s') E s) (ha:argsOk id ⟨self :: rest,[]⟩:=by rfl) (hg:badIds.contains id=false:=by decide +kernel) :
    wpAny (model prog w) A (call (.builtin id) (self :: rest)) Q E s:=by
  refine wpAny_call (codeAny_call_builtin h.plain hb (up (h.check _ _ _ _ _ _ _ _ hT ha (wpAny_mono hc (fun fin s' h'=>?_) fun _ _ h'=>h'))) hg)
  obtain ⟨v,rfl,hv⟩:=h';exact hv
theorem wpAny_callSpecial?_slot {self:Value} {T:String} {name:Str} {id:String} {args:List Value} {kw:List (Str × Value)} {Q:Option Value→Shared→Prop} (hT:s.TypeIs self T) (h:Slot T name id)
    (hc:wpAny M A (call (.builtin id) (self :: args) kw) (fun v=>Q (some v)) E s):wpAny M A (callSpecial? self name args kw) Q E s:=by
  simp only [callSpecial?]
  refine wpAny_bind (wpAny_specialOf hT h.lookup ?_)
  simp only [h.bind]
  exact wpAny_holding (wpAny_bind (wpAny_pure (wpAny_bind (wpAny_mono hc (fun v s' h'=>wpAny_pure h') fun _ _ h'=>h'))))
end
inductive AV where
  | none | bool (b:Bool) | int (i:Int) | str (x:Str) | bytes (xs:List Int)
  | bi (id:String) | ty (t:String) | top (a:Nat) | ob (i:Nat)
inductive AObj where
  | list (xs:List AV) | tup (xs:List AV) | dict (es:List (Str × AV)) | cell (v:Option AV)
  | fn (qual:Str) (params:Arguments) (body:Expr) (scope:Scope) (clos:List (Str × Nat)) (attrs:Option Nat)
  | barr (xs:List Int) | exc (m:Str) | nsd (es:List (Str × AV)) | fix (o:Obj) (xs:List AV)
noncomputable abbrev AHeap:=List AObj
structure Wd where
  ρ : List Addr
  κ : List (Addr × Str)
  τ : List (Nat × Int)
noncomputable def Wd.le (x y:Wd):Prop:=x.ρ <+: y.ρ∧(∀ p∈x.κ,p∈y.κ)∧∀ p∈x.τ,p∈y.τ
noncomputable def Wd.own (x:Wd) (a:Addr):Prop:=a∈x.ρ∨∃ q,(a,q)∈x.κ
theorem Wd.le_refl (x:Wd):x.le x:=⟨List.prefix_refl _,fun _ h=>h,fun _ h=>h⟩
theorem Wd.le_trans {x y z:Wd} (a:x.le y) (b:y.le z):x.le z:=⟨a.1.trans b.1,fun p h=>b.2.1 p (a.2.1 p h),fun p h=>b.2.2 p (a.2.2 p h)⟩
theorem prefix_get {α:Type} {l l':List α} (h:l <+: l') {i:Nat} {a:α} (e:l[i]? = some a):l'[i]? = some a:=
  h.elim fun _ q=>q ▸ (List.getElem?_append_left (List.getElem?_eq_some_iff.mp e).1).trans e
noncomputable def VR (x:Wd):AV→Value→Prop
  | .none,v=>v = .none
  | .bool b,v=>v = .bool b
  | .int i,v=>∃ t,(t,i)∈x.τ∧v = .int i t
  | .str x,v=>∃ t,v = .str x t
  | .bytes xs,v=>∃ (b:Array UInt8) (t:Tok),v = .bytes b t∧b.toList.map (fun u=>(u.toNat:Int))=xs
  | .bi id,v=>v = .builtin id
  | .ty t,v=>v = .type t
  | .top a,v=>v = .ref a∧a < 179
  | .ob i,v=>∃ a,x.ρ[i]? = some a∧v = .ref a
theorem VR.mono {x y:Wd} (h:x.le y) {a:AV} {v:Value} (r:VR x a v):VR y a v:=by
  cases a with
  | int i=>exact Exists.imp (fun t q=>⟨h.2.2 _ q.1,q.2⟩) r
  | ob i=>exact Exists.imp (fun t q=>⟨prefix_get h.1 q.1,q.2⟩) r
  | _ => exact r
inductive VRs (x:Wd):List AV→List Value→Prop
  | nil:VRs x [] []
  | cons {a v as vs}:VR x a v→VRs x as vs→VRs x (a :: as) (v :: vs)
theorem VRs.mono {x y:Wd} (h:x.le y) {a:List AV} {v:List Value} (r:VRs x a v):VRs y a v:=by
  induction r with
  | nil=>exact .nil
  | cons p _ q=>exact .cons (p.mono h) q
theorem VRs.nil_ {x:Wd} {v:List Value} (r:VRs x [] v) {P:List Value→Prop} (k:P []):P v:=by cases r;exact k
theorem VRs.cons_ {x:Wd} {a:AV} {as:List AV} {v:List Value} (r:VRs x (a :: as) v) {P:List Value→Prop} (k:∀ u us,VR x a u→VRs x as us→P (u :: us)):P v:=by cases r with | cons p q=>exact k _ _ p q
theorem VRs.length {w:Wd} {a:List AV} {v:List Value} (r:VRs w a v):a.length=v.length:=by
  induction r with
  | nil=>rfl
  | cons _ _ q=>exact congrArg (·+1) q
theorem VRs.get {w:Wd} {a:List AV} {v:List Value} (r:VRs w a v):∀ {i:Nat} {x:AV},a[i]? = some x→∃ y,v[i]? = some y∧VR w x y:=by
  induction r with
  | nil=>exact fun e=>nomatch e
  | cons p _ q=>exact fun {i} _ e=>match i,e with
    | 0,e=>⟨_,rfl,Option.some.inj e ▸ p⟩
    | i + 1,e=>q (i:=i) e
theorem VRs.append {w:Wd} {a b:List AV} {v u:List Value} (r:VRs w a v) (s:VRs w b u):VRs w (a++b) (v++u):=by
  induction r with
  | nil=>exact s
  | cons p _ q=>exact .cons p q
theorem VRs.take {w:Wd} {a:List AV} {v:List Value} (r:VRs w a v):∀ (n:Nat),VRs w (a.take n) (v.take n):=by
  induction r with
  | nil=>exact fun n=>by simp only [List.take_nil];exact .nil
  | cons p _ q=>exact fun n=>match n with
    | 0 => .nil
    | n + 1=>.cons p (q n)
theorem VRs.drop {w:Wd} {a:List AV} {v:List Value} (r:VRs w a v):∀ (n:Nat),VRs w (a.drop n) (v.drop n):=by
  induction r with
  | nil=>exact fun n=>by simp only [List.drop_nil];exact .nil
  | cons p s q=>exact fun n=>match n with
    | 0 => .cons p s
    | n + 1=>q n
theorem VRs.set {w:Wd} {b:AV} {u:Value} (h:VR w b u) {a:List AV} {v:List Value} (r:VRs w a v):∀ (n:Nat),VRs w (a.set n b) (v.set n u):=by
  induction r with
  | nil=>exact fun _=>.nil
  | cons p s q=>exact fun n=>match n with
    | 0 => .cons h s
    | n + 1=>.cons p (q n)
inductive NRs (x:Wd):List (Str × AV)→List (Str × Value)→Prop
  | nil:NRs x [] []
  | cons {n a v as vs}:VR x a v→NRs x as vs→NRs x ((n,a) :: as) ((n,v) :: vs)
theorem NRs.mono {x y:Wd} (h:x.le y) {a:List (Str × AV)} {v:List (Str × Value)} (r:NRs x a v):NRs y a v:=by
  induction r with
  | nil=>exact .nil
  | cons p _ q=>exact .cons (p.mono h) q
theorem look_cons {β:Type} {n k:Str} {v:β} {l:List (Str × β)}:((k,v) :: l).lookup n=if n=k then some v else l.lookup n:=by
  rw [List.lookup_cons]
  by_cases h:n=k
  · rw [if_pos h,beq_iff_eq.mpr h]
  · rw [if_neg h,beq_eq_false_iff_ne.mpr h]
theorem NRs.look {w:Wd} {n:Str} {a:List (Str × AV)} {v:List (Str × Value)} (r:NRs w a v):∀ {x:AV},a.lookup n=some x→∃ y,v.lookup n=some y∧VR w x y:=by
  induction r with
  | nil=>exact fun e=>nomatch e
  | @cons k _ _ _ _ p _ q =>
    intro x e
    rw [look_cons] at e ⊢
    by_cases h:n=k
    · rw [if_pos h] at e ⊢;exact ⟨_,rfl,Option.some.inj e ▸ p⟩
    · rw [if_neg h] at e ⊢;exact q e
inductive CRs (ρ:List Addr):List (Str × Nat)→List (Str × Addr)→Prop
  | nil:CRs ρ [] []
  | cons {n i a as vs}:ρ[i]? = some a→CRs ρ as vs→CRs ρ ((n,i) :: as) ((n,a) :: vs)
theorem CRs.mono {ρ ρ':List Addr} (h:ρ <+: ρ') {a:List (Str × Nat)} {v:List (Str × Addr)} (r:CRs ρ a v):CRs ρ' a v:=by
  induction r with
  | nil=>exact .nil
  | cons p _ q=>exact .cons (prefix_get h p) q
theorem CRs.look {ρ:List Addr} {n:Str} {a:List (Str × Nat)} {v:List (Str × Addr)} (r:CRs ρ a v):∀ {x:Nat},a.lookup n=some x→∃ y,v.lookup n=some y∧ρ[x]? = some y:=by
  induction r with
  | nil=>exact fun e=>nomatch e
  | @cons k _ _ _ _ p _ q =>
    intro x e
    rw [look_cons] at e ⊢
    by_cases h:n=k
    · rw [if_pos h] at e ⊢;exact ⟨_,rfl,Option.some.inj e ▸ p⟩
    · rw [if_neg h] at e ⊢;exact q e
noncomputable def CellV (x:Wd):Option AV→Option Value→Prop
  | none,u=>u=none
  | some av,u=>∃ y,u=some y∧VR x av y
noncomputable def AttrV (ρ:List Addr):Option Nat→Option Addr→Prop
  | none,d=>d=none
  | some i,d=>∃ b,ρ[i]? = some b∧d=some b
theorem CellV.mono {x y:Wd} (h:x.le y) {a:Option AV} {u:Option Value} (r:CellV x a u):CellV y a u:=by
  cases a with
  | none=>exact r
  | some _=>exact Exists.imp (fun _ q=>⟨q.1,q.2.mono h⟩) r
theorem AttrV.mono {ρ ρ':List Addr} (h:ρ <+: ρ') {a:Option Nat} {u:Option Addr} (r:AttrV ρ a u):AttrV ρ' a u:=by
  cases a with
  | none=>exact r
  | some _=>exact Exists.imp (fun _ q=>⟨prefix_get h q.1,q.2⟩) r
noncomputable def NsV (x:Wd) (es:List (Str × AV)) (m:Str→Option Value):Prop:=∀ k av,es.lookup k=some av→∃ v,m k=some v∧VR x av v
theorem NsV.mono {x y:Wd} (h:x.le y) {es:List (Str × AV)} {m:Str→Option Value} (n:NsV x es m):NsV y es m:=fun k av e=>(n k av e).imp fun _ q=>⟨q.1,q.2.mono h⟩
noncomputable def attrNames:List Str:=["tag","attrib","kids","append","makeelement"]
structure FD where
  addr:Nat
  name:Str
  params:Arguments
  body:List Stmt
  scope:Scope
  lam:Bool
noncomputable def pBody:List Stmt:=PySem.Challenge.pw_wy0026_01.main.body
noncomputable def nth (i a:Nat) (lam:Bool):FD:=match pBody[i]? with
  | some (.FunctionDef name params body _ _ _ scope _ _ _)=>⟨a,name,params,body,scope,lam⟩
  | _ => ⟨a,"",default,[],default,lam⟩
noncomputable def dBl:FD:=nth 4 50 false
noncomputable def dBr:FD:=nth 2 32 false
noncomputable def dIl:FD:=nth 3 41 false
noncomputable def dIr:FD:=nth 1 23 false
noncomputable def dAdd:FD:=nth 6 57 false
noncomputable def dMul:FD:=nth 7 64 false
noncomputable def dNeg:FD:=nth 8 71 false
noncomputable def dSub:FD:=nth 9 78 false
noncomputable def dConcat:FD:=nth 10 85 false
noncomputable def dCount:FD:=nth 11 92 false
noncomputable def dIndex:FD:=nth 12 99 false
noncomputable def dSwap:FD:=nth 14 106 false
noncomputable def dIsel:FD:=nth 16 113 false
noncomputable def dSubEl:FD:=nth 17 122 false
noncomputable def dThing:FD:=nth 19 129 true
noncomputable def dSides:FD:=nth 20 136 true
noncomputable def dLike:FD:=nth 21 141 true
noncomputable def dBush:FD:=nth 22 146 true
noncomputable def dRead:FD:=nth 23 151 false
noncomputable def dPairs:FD:=nth 24 156 false
noncomputable def dBarred:FD:=nth 25 161 false
noncomputable def dCut:FD:=nth 26 166 false
noncomputable def dCells:FD:=nth 27 173 false
noncomputable def dLaw:FD:=nth 28 178 false
noncomputable def defTab:List FD:=[dBl,dBr,dIl,dIr,dAdd,dMul,dNeg,dSub,dConcat,dCount,dIndex,dSwap,dIsel,dSubEl,dThing,dSides,dLike,dBush,dRead,dPairs,dBarred,dCut,dCells,dLaw]
noncomputable def dflD (d:FD):Bool:=d.addr == 23 || d.addr == 32 || d.addr == 41 || d.addr == 50
noncomputable def glob:List (Str × Nat):=[("bisect_left",50),("bisect_right",32),("insort_left",41),("insort_right",23),("add",57),("mul",64),("neg",71),("sub",78),
  ("concat",85),("countOf",92),("indexOf",99),("_byteswap",106),("iselement",113),("SubElement",122),("_law_thing",129),("_law_sides",136),
  ("_law_like",141),("_law_bush",146),("_law_read",151),("_law_pairs",156),("_law_barred",161),("_law_cut",166),("_law_cells",173),("law",178)]
noncomputable def bglob:List (Str × Bool × String):=[("len",true,"len"),("range",false,"range"),("enumerate",false,"enumerate"),("list",false,"list"),("sorted",true,"sorted"),("max",true,"max"),("min",true,"min"),("hasattr",true,"hasattr"),
  ("isinstance",true,"isinstance"),("bytes",false,"bytes"),("bytearray",false,"bytearray"),("str",false,"str"),("ValueError",false,"ValueError")]
noncomputable def bltA (b:Bool × String):AV:=if b.1 then .bi b.2 else .ty b.2
noncomputable def bltV (b:Bool × String):Value:=if b.1 then .builtin b.2 else .type b.2
structure CodeIn (h:Heap) (κ:List (Addr × Str)) (c:Addr) (q:Str) (P:Addr):Prop where
  r : h.CodeRec (.ref c) q
  hd:CodeHd h c P
  m : (P,q ++ ".<locals>.")∈κ
noncomputable def NoTb (o:Obj):Prop:=o.cls = .type "traceback"→∀ vs,o.data ≠ .fields vs
noncomputable def seqOb (T:String) (vs:List Value) (n:Nat):Obj:={ cls:=.type T,data:=.seq vs.toArray n }
noncomputable def fnOb (qual:Str) (params:Arguments) (body:Expr) (scope:Scope) (cl:List (Str × Addr)) (pm c ctv:Value) (d:Option Addr):Obj:={ cls:=.type "function",dict:=d,data:=.func (kla_fn "<lambda>" qual params body scope cl pm c ctv) }
inductive FnR (x:Wd) (h:Heap) (a:Addr) (qual:Str) (params:Arguments) (body:Expr) (scope:Scope) (clos:List (Str × Nat)) (attrs:Option Nat):Prop
  | mk {cl:List (Str × Addr)} {pm:Value} {c P:Addr} {ctv:Value} {d:Option Addr}:h.get? a=some (fnOb qual params body scope cl pm (.ref c) ctv d)→CRs x.ρ clos cl→CodeIn h x.κ c qual P→AttrV x.ρ attrs d→FnR x h a qual params body scope clos attrs
inductive ExcR (x:Wd) (h:Heap) (a:Addr) (m:Str):Prop
  | mk {vs:Array Value} {t:Addr} {tok:Tok} {n:Nat}:h.get? a=some { cls:=.type "ValueError",data:=.fields vs }→vs[0]? = some (.ref t)→vs[2]? = some .none →
      h.get? t=some (seqOb "tuple" [.str m tok] n)→¬ x.own t→ExcR x h a m
noncomputable def DfV (τ:List (Nat × Int)) (h:Heap) (d:FD) (dV kV:Value):Prop:=
  if dflD d=true then ∃ T n D t k u m,dV = .ref T∧kV = .ref D∧(t,(0:Int))∈τ∧h.get? T=some (seqOb "tuple" [.int 0 t,.none] n)∧h.get? D=some { cls:=.type "dict",data:=.dict #[⟨k,.str "key" u,.none⟩] m }
  else if d.addr=122 then kV = .none∧∃ T v n,dV = .ref T∧h.get? T=some (seqOb "tuple" [v] n) else dV = .none∧kV = .none
inductive FnIn (κ:List (Addr × Str)) (τ:List (Nat × Int)) (h:Heap) (d:FD):Prop
  | mk {dV kV doc pm ct:Value} {c:Addr} {an dd:Option Addr}:h.get? d.addr=some { cls:=.type "function",dict:=dd,data:=.func (fnOf d.name d.name d.params d.body d.scope dV kV doc pm an (.ref c) ct) }→h.CodeRec (.ref c) d.name→DfV τ h d dV kV →
    (d.lam=true→∃ P,CodeHd h c P∧(P,d.name ++ ".<locals>.")∈κ)→FnIn κ τ h d
structure Tp (κ:List (Addr × Str)) (τ:List (Nat × Int)) (h:Heap):Prop where
  lim:h.Ns cStatics (fun _=>none)
  ns : ∃ mg mb,h.Ns mainGlobals mg∧h.Ns builtinsNs mb∧(∀ x a,glob.lookup x=some a→mg x=some (.ref a)∧a < 179)∧(∀ x b,bglob.lookup x=some b→mg x=none∧mb x=some (bltV b)) ∧
    (∃ bm o,mg "__builtins__" = some (.ref bm)∧bm≠builtinsNs∧bm≠mainGlobals∧bm < 179∧h.get? bm=some o∧o.cls = .type "module"∧o.dict=some builtinsNs∧o.data = .plain)
  fns:∀ d∈defTab,FnIn κ τ h d
structure Gx where
  prog:Program
  w : World
  top:List (Addr × Obj)
  κ₀:List (Addr × Str)
  τ₀:List (Nat × Int)
  tp:∀ h,(∀ p∈top,h.get? p.1=some p.2)→Tp κ₀ τ₀ h
  ok:∀ p∈top,p.1 < 179∧NoTb p.2∧(p.2.cls = .none→∀ vs,p.2.data ≠ .fields vs)
noncomputable abbrev Gx.M (g:Gx):Model:=model g.prog g.w
noncomputable abbrev Gx.kd (g:Gx):=strKind g.prog g.w
noncomputable def OR (g:Gx) (x:Wd) (h:Heap) (a:Addr):AObj→Prop
  | .list xs=>∃ vs n,h.get? a=some (seqOb "list" vs n)∧VRs x xs vs
  | .tup xs=>∃ vs n,h.get? a=some (seqOb "tuple" vs n)∧VRs x xs vs
  | .dict es=>∃ vs,h.DictOf g.kd a vs∧NRs x es vs
  | .cell v=>∃ u,h.get? a=some { cls:=.type "cell",data:=.cell u }∧CellV x v u
  | .fn qual params body scope clos attrs=>FnR x h a qual params body scope clos attrs
  | .barr xs=>∃ (b:Array UInt8),h.get? a=some { cls:=.type "bytearray",data:=.bytearray b }∧b.toList.map (fun u=>(u.toNat:Int))=xs
  | .exc m=>ExcR x h a m
  | .nsd es=>∃ m,h.Ns1 a m∧NsV x es m∧Within m attrNames
  | .fix o xs=>∃ vs n,h.get? a=some o∧o=seqOb "list" vs n∧VRs x xs vs
noncomputable def Plainly (ob:Obj):Prop:=(ob.cls ≠ .none∧ob.cls ≠ .type "code"∧ob.cls ≠ .type "traceback")∨∃ es n,ob.data = .dict es n
theorem ne_code {T U:String} (h:T≠U):Value.type T ≠ .type U:=fun e=>h (Value.type.inj e)
theorem plainly {ob:Obj} {T:String} (h:ob.cls = .type T) (h1:T ≠ "code":=by decide) (h2:T ≠ "traceback":=by decide):Plainly ob:=.inl (h ▸ ⟨nofun,ne_code h1,ne_code h2⟩)
section
variable {g:Gx} {x y:Wd} {h h':Heap} {a:Addr} {o:AObj}
theorem dictOf_get {vs:List (Str × Value)} (d:h.DictOf g.kd a vs):∃ ob,h.get? a=some ob∧ob.cls = .type "dict":=d.typeIs (s:={ heap:=h })
theorem dictOf_own {vs:List (Str × Value)} (d:h.DictOf g.kd a vs) (k:∀ o,h.get? a=some o→h'.get? a=some o):h'.DictOf g.kd a vs:=
  (Heap.dictOf_iff.mp d).elim fun o q=>Heap.dictOf_iff.mpr ⟨o,k _ q.1,q.2⟩
theorem OR.there (r:OR g x h a o):∃ ob,h.get? a=some ob∧Plainly ob:=by
  cases o with
  | list _=>exact r.elim fun _ r=>r.elim fun _ r=>⟨_,r.1,plainly (T:="list") rfl⟩
  | tup _=>exact r.elim fun _ r=>r.elim fun _ r=>⟨_,r.1,plainly (T:="tuple") rfl⟩
  | dict _=>exact r.elim fun _ r=>(dictOf_get r.1).imp fun _ q=>⟨q.1,plainly q.2⟩
  | cell _=>exact r.elim fun _ r=>⟨_,r.1,plainly (T:="cell") rfl⟩
  | fn=>exact r.rec fun e _ _ _=>⟨_,e,plainly (T:="function") rfl⟩
  | barr _=>exact r.elim fun _ r=>⟨_,r.1,plainly (T:="bytearray") rfl⟩
  | exc _=>exact r.rec fun e _ _ _ _=>⟨_,e,plainly (T:="ValueError") rfl⟩
  | nsd _=>exact r.elim fun _ r=>r.1.elim fun o r=>r.elim fun es r=>r.elim fun ep r=>⟨o,r.1,.inr ⟨es,ep,r.2.1⟩⟩
  | fix _ _=>exact r.elim fun _ r=>r.elim fun _ r=>⟨_,r.1,r.2.1 ▸ plainly (T:="list") rfl⟩
theorem codeRec_own {c:Addr} {q:Str} (r:h.CodeRec (.ref c) q) (k:∀ o,h.get? c=some o→h'.get? c=some o):h'.CodeRec (.ref c) q:=
  r.elim fun c' r=>r.elim fun o r=>r.elim fun vs r=>r.elim fun t r=>⟨c',o,vs,t,r.1,by have e:=Value.ref.inj r.1;subst e;exact k _ r.2.1,r.2.2⟩
theorem codeHd_own {c P:Addr} (r:CodeHd h c P) (k:∀ o,h.get? c=some o→h'.get? c=some o):CodeHd h' c P:=
  r.imp fun _ r=>r.imp fun _ r=>r.imp fun _ r=>r.imp fun _ r=>r.imp fun _ r=>r.imp fun _ r=>r.imp fun _ r=>r.imp fun _ r=>r.imp fun _ r=>⟨k _ r.1,r.2⟩
theorem codeHd_fields {c P:Addr} (r:CodeHd h c P):∃ o,h.get? c=some o∧o.cls = .type "code"∧∃ vs,o.data = .fields vs:=
  r.imp fun o r=>r.elim fun vs r=>r.elim fun _ r=>r.elim fun _ r=>r.elim fun _ r=>r.elim fun _ r=>r.elim fun _ r=>r.elim fun _ r=>r.elim fun _ r=>⟨r.1,r.2.1,vs,r.2.2.1⟩
noncomputable def KeepC (h h':Heap):Prop:=∀ b o,h.get? b=some o→o.cls = .type "code"→(∃ vs,o.data = .fields vs)→h'.get? b=some o
theorem KeepC.at (k:KeepC h h') {c P:Addr} (r:CodeHd h c P):∀ o,h.get? c=some o→h'.get? c=some o:=fun o e =>
  (codeHd_fields r).elim fun _ q=>k _ _ e (Option.some.inj (q.1.symm.trans e) ▸ q.2.1) (Option.some.inj (q.1.symm.trans e) ▸ q.2.2)
theorem CodeIn.at {κ κ':List (Addr × Str)} {c P:Addr} {q:Str} (r:CodeIn h κ c q P) (le:∀ p∈κ,p∈κ') (k:KeepC h h'):CodeIn h' κ' c q P:=⟨codeRec_own r.r (k.at r.hd),codeHd_own r.hd (k.at r.hd),le _ r.m⟩
theorem OR.at (le:x.le y) (ka:∀ o,h.get? a=some o→h'.get? a=some o) (kc:KeepC h h')
    (kt:∀ b vs n,h.get? b=some (seqOb "tuple" vs n)→¬ x.own b→h'.get? b=some (seqOb "tuple" vs n)∧¬ y.own b) (r:OR g x h a o):OR g y h' a o:=by
  cases o with
  | list _=>exact r.imp fun _ r=>r.imp fun _ r=>⟨ka _ r.1,r.2.mono le⟩
  | tup _=>exact r.imp fun _ r=>r.imp fun _ r=>⟨ka _ r.1,r.2.mono le⟩
  | dict _=>exact r.imp fun _ r=>⟨dictOf_own r.1 ka,r.2.mono le⟩
  | cell _=>exact r.imp fun _ r=>⟨ka _ r.1,r.2.mono le⟩
  | fn=>exact r.rec fun e c r d=>.mk (ka _ e) (c.mono le.1) (r.at le.2.1 kc) (d.mono le.1)
  | barr _=>exact r.imp fun _ r=>⟨ka _ r.1,r.2⟩
  | exc _=>exact r.rec fun e r1 r2 r3 r4=>.mk (ka _ e) r1 r2 (kt _ _ _ r3 r4).1 (kt _ _ _ r3 r4).2
  | nsd _=>exact r.imp fun _ r=>⟨r.1.at ka,r.2.1.mono le,r.2.2⟩
  | fix _ _=>exact r.imp fun _ r=>r.imp fun _ r=>⟨ka _ r.1,r.2.1,r.2.2.mono le⟩
end
noncomputable def TabIn (x:Wd) (h:Heap) (P:Addr) (q:Str):Prop:=
  ∃ ps:Array Value,h.get? P=some (tabObj ps)∧TriplesOk ps.toList∧∀ pos cv,codeAmong pos ps.toList=some cv→∃ c P',cv = .ref c∧CodeIn h x.κ c (q ++ "<lambda>") P'
theorem TabIn.at {x y:Wd} {h h':Heap} {P:Addr} {q:Str} (t:TabIn x h P q) (le:∀ p∈x.κ,p∈y.κ) (ka:∀ o,h.get? P=some o→h'.get? P=some o) (kc:KeepC h h'):TabIn y h' P q:=
  t.imp fun _ t=>⟨ka _ t.1,t.2.1,fun pos cv e=>(t.2.2 pos cv e).imp fun _ q=>q.imp fun _ q=>⟨q.1,q.2.at le kc⟩⟩
theorem NoTb.cls {o:Obj} {T:String} (h:o.cls = .type T) (ht:T ≠ "traceback":=by decide):NoTb o:=fun q=>absurd (Value.type.inj (h.symm.trans q)) ht
theorem NoTb.dict {o:Obj} (h:∃ es n,o.data = .dict es n):NoTb o:=fun _ vs q=>h.elim fun _ h=>h.elim fun _ h=>nomatch h.symm.trans q
theorem NoTb.plain {o:Obj} (h:Plainly o):NoTb o:=h.elim (fun h q=>absurd q h.2.2) .dict
noncomputable def KeepB (x:Wd) (X:List Addr) (h h':Heap):Prop:=∀ b o,h.get? b=some o→¬ x.own b→b∉X→NoTb o →
   h'.get? b=some o∨(179≤b∧(∃ es n,o.data = .dict es n)∧∃ sl,h'.get? b=some { o with slots:=sl })
noncomputable def ExcAt (h:Heap) (e:Addr):Prop:=∃ o vs,h.get? e=some o∧o.cls = .type "ValueError"∧o.data = .fields vs∧vs[2]? = some .none
theorem notExc {h:Heap} {a:Addr} {o:Obj} (e:h.get? a=some o) (hc:o.cls ≠ .type "ValueError"):¬ ExcAt h a:=fun q =>
  q.elim fun _ q=>q.elim fun _ q=>hc (Option.some.inj (q.1.symm.trans e) ▸ q.2.1)
theorem notExcD {h:Heap} {a:Addr} {o:Obj} (e:h.get? a=some o) (hc:∃ es n,o.data = .dict es n):¬ ExcAt h a:=fun q =>
  q.elim fun _ q=>q.elim fun _ q=>hc.elim fun _ hc=>hc.elim fun _ hc=>nomatch (Option.some.inj (q.1.symm.trans e) ▸ q.2.2.1).symm.trans hc
theorem ExcAt.own {h h':Heap} {e:Addr} (k:∀ o,h.get? e=some o→h'.get? e=some o) (r:ExcAt h e):ExcAt h' e:=r.imp fun _ r=>r.imp fun _ r=>⟨k _ r.1,r.2⟩
noncomputable def Live (h h':Heap):Prop:=∀ b o,h.get? b=some o→∃ o',h'.get? b=some o'
theorem Live.refl (h:Heap):Live h h:=fun _ o e=>⟨o,e⟩
theorem Live.trans {a b c:Heap} (x:Live a b) (y:Live b c):Live a c:=fun p o e=>(x p o e).elim fun _ e'=>y p _ e'
theorem Live.none {h h':Heap} (x:Live h h') {a:Addr} (e:h'.get? a=none):h.get? a=none:=
  match q:h.get? a with
  | .none=>rfl
  | .some o=>(x a o q).elim fun _ e'=>nomatch e.symm.trans e'
theorem Live.of {h h':Heap} (k:∀ b o,h.get? b=some o→h'.get? b=some o):Live h h':=fun b o e=>⟨o,k b o e⟩
theorem Live.but {h h':Heap} {a:Addr} (k:∀ b o,b≠a→h.get? b=some o→h'.get? b=some o) (ha:∃ o,h'.get? a=some o):Live h h':=fun b o e =>
  if q:b=a then q ▸ ha else ⟨o,k b o q e⟩
structure Step (X:List Addr) (x:Wd) (s:Shared) (y:Wd) (t:Shared):Prop where
  same:∃ h tk,t={ s with heap:=h,toks:=tk }
  le:x.le y
  size:Live s.heap t.heap
  new:∀ a,y.own a→¬ x.own a→s.heap.get? a=none
  keep:KeepB x X s.heap t.heap
  exc:∀ e,ExcAt s.heap e→ExcAt t.heap e
theorem Step.refl (X:List Addr) (x:Wd) (s:Shared):Step X x s x s:=⟨⟨_,_,rfl⟩,x.le_refl,Live.refl _,fun _ a b=>absurd a b,fun _ _ e _ _ _=>.inl e,fun _ e=>e⟩
theorem Step.old {X:List Addr} {x y:Wd} {s t:Shared} (a:Step X x s y t) {c:Addr} {o:Obj} (e:s.heap.get? c=some o) (n:¬ x.own c):¬ y.own c:=fun q=>nomatch (a.new _ q n).symm.trans e
theorem Step.trans {X X':List Addr} {x y z:Wd} {s t u:Shared} (a:Step X x s y t) (b:Step X' y t z u) (hX:∀ l∈X',l∈X∨s.heap.get? l=none):Step X x s z u where
  same:=a.same.elim fun h q=>q.elim fun tk q=>b.same.imp fun h' q'=>q'.imp fun tk' q'=>by rw [q',q]
  le:=Wd.le_trans a.le b.le
  size:=a.size.trans b.size
  new:=fun c o n=>(Classical.em (y.own c)).elim (fun hy=>a.new _ hy n) fun hy=>a.size.none (b.new _ o hy)
  keep :=fun c o e n hx nt =>
    have hx':c∉X':=fun hm=>(hX c hm).elim hx fun l=>nomatch l.symm.trans e
    (a.keep c o e n hx nt).elim (fun e1=>b.keep c o e1 (a.old e n) hx' nt) fun q=>q.2.2.elim fun sl e1 =>
      .inr ((b.keep c _ e1 (a.old e n) hx' (.dict q.2.1)).elim (fun e2=>⟨q.1,q.2.1,sl,e2⟩) fun q'=>⟨q.1,q.2.1,q'.2.2⟩)
  exc:=fun e h=>b.exc e (a.exc e h)
theorem Step.weak {x y:Wd} {s t:Shared} {X:List Addr} (st:Step [] x s y t):Step X x s y t:=⟨st.same,st.le,st.size,st.new,fun b o e no _ nt=>st.keep b o e no (fun m=>nomatch m) nt,st.exc⟩
theorem Step.trX {x y:Wd} {s t:Shared} {X:List Addr} {z:Wd} {u:Shared} (a:Step X x s y t) (b:Step X y t z u):Step X x s z u:=a.trans b fun _ m=>.inl m
theorem Step.trW {x y:Wd} {s t:Shared} {X:List Addr} {z:Wd} {u:Shared} (a:Step [] x s y t) (b:Step X y t z u):Step X x s z u:=a.weak.trX b
theorem Step.trV {x y:Wd} {s t:Shared} {X:List Addr} {z:Wd} {u:Shared} (a:Step X x s y t) (b:Step [] y t z u):Step X x s z u:=a.trX b.weak
structure Rl (g:Gx) (x:Wd) (H:AHeap) (s:Shared):Prop where
  gens:s.gens=#[]
  pos:0 < s.toks
  tok:∀ p∈x.τ,p.1≠0∧p.1 < s.toks
  tfun:∀ t i j,(t,i)∈x.τ→(t,j)∈x.τ→i=j
  kfun:∀ P q q',(P,q)∈x.κ→(P,q')∈x.κ→q=q'
  top:∀ p∈g.top,s.heap.get? p.1=some p.2
  base:(∀ p∈g.κ₀,p∈x.κ)∧∀ p∈g.τ₀,p∈x.τ
  len:x.ρ.length=H.length
  nd:x.ρ.Nodup
  low:∀ a∈x.ρ,179≤a
  obj:∀ (i:Nat) (o:AObj) (a:Addr),H[i]? = some o→x.ρ[i]? = some a→OR g x s.heap a o
  tab:∀ P q,(P,q)∈x.κ→TabIn x s.heap P q
  alive:∀ a,a < 179→∃ o,s.heap.get? a=some o
noncomputable def XOk (h:Heap) (X:List Addr):Prop:=∀ l∈X,179≤l∧∃ o,h.get? l=some o∧((∃ es n,o.data = .dict es n)∨((∃ vs,o.data = .fields vs)∧o.cls ≠ .type "code"))
theorem XOk.nil {h:Heap}:XOk h []:=fun _ m=>nomatch m
section
variable {g:Gx} {x y:Wd} {H H':AHeap} {s t:Shared} {X:List Addr} {h':Heap} {tk:Nat} {a:Addr}
theorem Rl.ofRho (z:Rl g x H s) (m:a∈x.ρ):∃ ob,s.heap.get? a=some ob∧Plainly ob:=
  (List.getElem_of_mem m).elim fun i q=>q.elim fun hi e =>
    (z.obj i _ a (List.getElem?_eq_getElem (z.len ▸ hi)) (by rw [List.getElem?_eq_getElem hi,e])).there
theorem Rl.ofOwn (z:Rl g x H s) (o:x.own a):∃ ob,s.heap.get? a=some ob∧((179≤a∧Plainly ob)∨∃ ps,ob=tabObj ps):=
  o.elim (fun m=>(z.ofRho m).imp fun _ q=>⟨q.1,.inl ⟨z.low a m,q.2⟩⟩) fun m=>m.elim fun q m=>(z.tab a q m).elim fun ps t=>⟨_,t.1,.inr ⟨ps,rfl⟩⟩
theorem Rl.tp (z:Rl g x H s):Tp g.κ₀ g.τ₀ s.heap:=g.tp _ z.top
theorem Rl.fresh (z:Rl g x H s) (e:s.heap.get? a=none):¬ x.own a:=fun q=>(z.ofOwn q).elim fun _ q=>nomatch e.symm.trans q.1
theorem Rl.ownNoTb (z:Rl g x H s) (ob:x.own a) {o:Obj} (e:s.heap.get? a=some o):NoTb o:=
  (z.ofOwn ob).elim fun _ q=>Option.some.inj (q.1.symm.trans e) ▸ q.2.elim (fun q=>.plain q.2) fun q=>q.elim fun _ e=>e ▸ fun q=>nomatch q
theorem Rl.notCode (z:Rl g x H s) {o:Obj} (e:s.heap.get? a=some o) (hc:o.cls = .type "code") (hv:∃ vs,o.data = .fields vs):¬ x.own a:=fun q =>
  (z.ofOwn q).elim fun _ q=>by
    have q':=Option.some.inj (q.1.symm.trans e) ▸ q.2
    exact q'.elim (fun q=>q.2.elim (fun q=>q.2.1 hc) fun q=>q.elim fun _ q=>q.elim fun _ q=>hv.elim fun _ hv=>nomatch hv.symm.trans q) fun q=>q.elim fun _ q=>nomatch hc.symm.trans (congrArg Obj.cls q)
theorem Rl.lowOf (z:Rl g x H s) (h:s.heap.get? a=none):179≤a:=Nat.not_lt.mp fun l=>(z.alive a l).elim fun _ e=>nomatch h.symm.trans e
theorem Rl.big (z:Rl g x H s):179≤s.heap.objs.size:=(z.alive 178 (by decide)).elim fun _ e=>Heap.lt_size e
theorem KeepB.code (z:Rl g x H s) (hX:XOk s.heap X) (k:KeepB x X s.heap h'):KeepC s.heap h':=fun b o e hc hv =>
  (k b o e (z.notCode e hc hv) (fun m=>(hX _ m).2.elim fun _ q=>(Option.some.inj (q.1.symm.trans e) ▸ q.2).elim (fun q=>q.elim fun _ q=>q.elim fun _ q=>hv.elim fun _ hv=>nomatch hv.symm.trans q) fun q=>q.2 hc) (.cls hc)).elim id
    fun q=>q.2.1.elim fun _ q=>q.elim fun _ q=>hv.elim fun _ hv=>nomatch hv.symm.trans q
theorem Rl.topKept (z:Rl g x H s) (hX:XOk s.heap X) (k:KeepB x X s.heap h'):∀ p∈g.top,h'.get? p.1=some p.2:=fun p m =>
  have ok:=g.ok p m
  have e:=z.top p m
  (k p.1 p.2 e (fun q=>(z.ofOwn q).elim fun _ q=>q.2.elim (fun q=>absurd ok.1 (Nat.not_lt.mpr q.1)) fun q'=>q'.elim fun _ q' =>
      have e':=Option.some.inj (q.1.symm.trans e)
      ok.2.2 (e' ▸ congrArg Obj.cls q') _ (e' ▸ congrArg Obj.data q')) (fun m=>absurd ok.1 (Nat.not_lt.mpr (hX _ m).1)) ok.2.1).elim id fun q=>absurd ok.1 (Nat.not_lt.mpr q.1)
theorem Rl.orKept (z:Rl g x H s) (hX:XOk s.heap X) (le:x.le y) (k:KeepB x X s.heap h') (new:∀ a,y.own a→¬ x.own a→s.heap.get? a=none) {o:AObj}
    (r:OR g x s.heap a o) (ka:∀ o,s.heap.get? a=some o→h'.get? a=some o):OR g y h' a o:=
  r.at le ka (k.code z hX) fun b vs n e ho=>⟨(k b _ e ho (fun m=>(hX _ m).2.elim fun _ q=>(Option.some.inj (q.1.symm.trans e) ▸ q.2).elim (fun q=>q.elim fun _ q=>q.elim fun _ q=>nomatch q) fun q=>q.1.elim fun _ q=>nomatch q) (fun _ _ q=>nomatch q)).elim (fun q=>q)
    (fun q=>q.2.1.elim fun _ q=>q.elim fun _ q=>nomatch q),fun q=>nomatch (new _ q ho).symm.trans e⟩
theorem Rl.move (z:Rl g x H s) (le:x.le y) (kb:KeepB x X s.heap h') (xo:XOk s.heap X) (ht:s.toks≤tk) (live:Live s.heap h') (new:∀ a,y.own a→¬ x.own a→s.heap.get? a=none) (exc:∀ e,ExcAt s.heap e→ExcAt h' e)
    (tok:∀ p∈y.τ,p.1≠0∧p.1 < tk) (tfun:∀ t i j,(t,i)∈y.τ→(t,j)∈y.τ→i=j) (kfun:∀ P q q',(P,q)∈y.κ→(P,q')∈y.κ→q=q') (len:y.ρ.length=H'.length) (nd:y.ρ.Nodup) (low:∀ a∈y.ρ,179≤a)
    (obj:∀ (i:Nat) (o:AObj) (a:Addr),H'[i]? = some o→y.ρ[i]? = some a→OR g y h' a o) (tab:∀ P q,(P,q)∈y.κ→TabIn y h' P q) :
    Rl g y H' { s with heap:=h',toks:=tk }∧Step X x s y { s with heap:=h',toks:=tk }:=
  ⟨⟨z.gens,Nat.lt_of_lt_of_le z.pos ht,tok,tfun,kfun,z.topKept xo kb,⟨fun p m=>le.2.1 _ (z.base.1 p m),fun p m=>le.2.2 _ (z.base.2 p m)⟩,len,nd,low,obj,tab,fun a l=>(z.alive a l).elim (live a)⟩,⟨_,_,rfl⟩,le,live,new,kb,exc⟩
theorem Rl.same (z:Rl g x H s) (kb:KeepB x X s.heap h') (xo:XOk s.heap X) (ht:s.toks≤tk) (live:Live s.heap h') (exc:∀ e,ExcAt s.heap e→ExcAt h' e) (len:H'.length=H.length)
    (obj:∀ (i:Nat) (o:AObj) (a:Addr),H'[i]? = some o→x.ρ[i]? = some a→OR g x h' a o) (tab:∀ P q,(P,q)∈x.κ→∀ o,s.heap.get? P=some o→h'.get? P=some o) :
    Rl g x H' { s with heap:=h',toks:=tk }∧Step X x s x { s with heap:=h',toks:=tk }:=
  z.move x.le_refl kb xo ht live (fun _ a b=>absurd a b) exc (fun p m=>⟨(z.tok p m).1,Nat.lt_of_lt_of_le (z.tok p m).2 ht⟩) z.tfun z.kfun (z.len.trans len.symm) z.nd z.low obj fun P q m=>(z.tab P q m).at (fun _ h=>h) (tab P q m) (kb.code z xo)
theorem Rl.okept (z:Rl g x H s) (kb:KeepB x X s.heap h') (xo:XOk s.heap X) {i:Nat} {o:AObj} (e1:H[i]? = some o) (e2:x.ρ[i]? = some a) (k:∀ o,s.heap.get? a=some o→h'.get? a=some o):OR g x h' a o:=
  z.orKept xo x.le_refl kb (fun _ a b=>absurd a b) (z.obj i o a e1 e2) k
theorem Rl.stay (z:Rl g x H s) (k:∀ b o,s.heap.get? b=some o→h'.get? b=some o) (ht:s.toks≤tk:=by first | assumption | exact Nat.le_refl _ | exact Nat.le_succ _) :
    Rl g x H { s with heap:=h',toks:=tk }∧Step [] x s x { s with heap:=h',toks:=tk }:=
  z.same (fun b o e _ _ _=>.inl (k b o e)) XOk.nil ht (Live.of k) (fun e=>ExcAt.own (k e)) rfl (fun i o a e1 e2=>z.okept (fun b o e _ _ _=>.inl (k b o e)) XOk.nil e1 e2 (k a)) fun P _ _=>k P
theorem Rl.toks (z:Rl g x H s) (tk:Nat) (ht:s.toks≤tk:=by first | assumption | exact Nat.le_refl _ | exact Nat.le_succ _):Rl g x H { s with toks:=tk }∧Step [] x s x { s with toks:=tk }:=z.stay (h':=s.heap) (fun _ _ e=>e) ht
theorem Rl.side (z:Rl g x H s) (xo:XOk s.heap X) (no:∀ l∈X,¬ x.own l∧¬ ExcAt s.heap l) (k:∀ b o,b∉X→s.heap.get? b=some o→h'.get? b=some o) (live:Live s.heap h') (ht:s.toks≤tk:=by first | assumption | exact Nat.le_refl _ | exact Nat.le_succ _) :
    Rl g x H { s with heap:=h',toks:=tk }∧Step X x s x { s with heap:=h',toks:=tk }:=
  have kb:KeepB x X s.heap h':=fun b o e _ hm _=>.inl (k b o hm e)
  z.same kb xo ht live (fun e r=>r.own fun o=>k _ o fun m=>(no e m).2 r) rfl
    (fun _ _ a e1 e2=>z.okept kb xo e1 e2 fun o=>k a o fun m=>(no a m).1 (.inl (List.mem_of_getElem? e2))) fun P q m o=>k P o fun m'=>(no P m').1 (.inr ⟨q,m⟩)
noncomputable def Wd.add (x:Wd) (a:Addr):Wd:=⟨x.ρ++[a],x.κ,x.τ⟩
theorem Wd.le_add (x:Wd) (a:Addr):x.le (x.add a):=⟨List.prefix_append _ _,fun _ m=>m,fun _ m=>m⟩
theorem Rl.get (z:Rl g x H s) (a:Addr):(x.add a).ρ[H.length]? = some a:=z.len ▸ List.getElem?_concat_length
theorem add_own {b:Addr} (q:(x.add a).own b):x.own b∨b=a:=q.elim (fun m=>(List.mem_append.mp m).elim (fun m=>.inl (.inl m)) fun m=>.inr (List.mem_singleton.mp m)) fun m=>.inl (.inr m)
theorem get_append {α:Type} {l:List α} {o:α} {i:Nat} {v:α} (e:(l++[o])[i]? = some v):l[i]? = some v∨(i=l.length∧v=o):=by
  rw [List.getElem?_append] at e
  split at e
  · exact .inl e
  · rename_i h
    have h1:=(List.getElem?_eq_some_iff.mp e).1
    have h2:i=l.length:=Nat.le_antisymm (Nat.le_of_not_lt fun q=>Nat.not_lt.mpr (Nat.le_sub_of_add_le' q) h1) (Nat.not_lt.mp h)
    subst h2
    rw [Nat.sub_self] at e
    exact .inr ⟨rfl,(Option.some.inj e).symm⟩
theorem Rl.add (z:Rl g x H s) {o:AObj} (k:∀ b o,s.heap.get? b=some o→h'.get? b=some o) (ha:s.heap.get? a=none)
    (r:OR g (x.add a) h' a o) (ht:s.toks≤tk:=by first | assumption | exact Nat.le_refl _ | exact Nat.le_succ _):Rl g (x.add a) (H++[o]) { s with heap:=h',toks:=tk }∧Step [] x s (x.add a) { s with heap:=h',toks:=tk }:=
  have kb:KeepB x [] s.heap h':=fun b o e _ _ _=>.inl (k b o e)
  have new:∀ b,(x.add a).own b→¬ x.own b→s.heap.get? b=none:=fun b o n=>(add_own o).elim (fun q=>absurd q n) fun q=>q ▸ ha
  z.move (x.le_add a) kb XOk.nil ht (Live.of k) new (fun e=>ExcAt.own (k e)) (fun p m=>⟨(z.tok p m).1,Nat.lt_of_lt_of_le (z.tok p m).2 ht⟩) z.tfun z.kfun
    (by rw [List.length_append,←z.len];exact List.length_append) (List.nodup_append.mpr ⟨z.nd,List.nodup_cons.mpr ⟨nofun,.nil⟩,fun b hb c hc e=>z.fresh ha (.inl (List.mem_singleton.mp hc ▸ e ▸ hb))⟩)
    (fun b hb=>(List.mem_append.mp hb).elim (z.low b) fun m=>List.mem_singleton.mp m ▸ z.lowOf ha)
    (fun i o' b e1 e2=>(get_append e1).elim
      (fun e1=>z.orKept XOk.nil (x.le_add a) kb new (z.obj i o' b e1 ((get_append e2).elim id fun q=>absurd (List.getElem?_eq_some_iff.mp e1).1 (by rw [q.1,z.len];exact Nat.lt_irrefl _))) (k b))
      fun q=>(get_append e2).elim (fun e2=>absurd (List.getElem?_eq_some_iff.mp e2).1 (by rw [q.1,z.len];exact Nat.lt_irrefl _)) fun q2=>q.2 ▸ q2.2 ▸ r)
    fun P q m=>(z.tab P q m).at (fun _ h=>h) (k P) (kb.code z XOk.nil)
theorem rho_inj (z:Rl g x H s) {i j:Nat} (e1:x.ρ[i]? = some a) (e2:x.ρ[j]? = some a):i=j:=
  have h1:=List.getElem?_eq_some_iff.mp e1
  have h2:=List.getElem?_eq_some_iff.mp e2
  h1.elim fun p1 e1=>h2.elim fun p2 e2=>(List.getElem_inj z.nd).mp (e1.trans e2.symm)
theorem tab_ne {ps:Array Value}:¬ Plainly (tabObj ps):=fun q=>q.elim (fun q=>q.1 rfl) fun q=>q.elim fun _ q=>q.elim fun _ q=>nomatch q
theorem Rl.put (z:Rl g x H s) {i:Nat} {o:AObj} (ea:x.ρ[i]? = some a) (k:∀ b o,b≠a→s.heap.get? b=some o→h'.get? b=some o)
    (r:OR g x h' a o) (hv:¬ ExcAt s.heap a) (ht:s.toks≤tk:=by first | assumption | exact Nat.le_refl _ | exact Nat.le_succ _):Rl g x (H.set i o) { s with heap:=h',toks:=tk }∧Step [] x s x { s with heap:=h',toks:=tk }:=
  have ma:=List.mem_of_getElem? ea
  have kb:KeepB x [] s.heap h':=fun b o e n _ _=>.inl (k b o (fun q=>n (.inl (q ▸ ma))) e)
  z.same kb XOk.nil ht (Live.but k (r.there.imp fun _ q=>q.1)) (fun e r=>r.own fun o=>k _ o fun q=>hv (q ▸ r)) List.length_set
    (fun j o' b e1 e2=>if hij:i=j then by
        subst hij
        rw [List.getElem?_set_self (by rw [←z.len];exact (List.getElem?_eq_some_iff.mp ea).1)] at e1
        exact Option.some.inj (ea.symm.trans e2) ▸ Option.some.inj e1 ▸ r
      else z.okept kb XOk.nil ((List.getElem?_set_ne hij).symm.trans e1) e2 fun o=>k b o fun q=>hij (rho_inj z ea (q ▸ e2)))
    fun P q m o=>k P o fun e=>(z.tab P q m).elim fun _ t=>(z.ofRho ma).elim fun _ q=>tab_ne (Option.some.inj (q.1.symm.trans (e ▸ t.1)) ▸ q.2)
noncomputable def Wd.addI (x:Wd) (t:Nat) (i:Int):Wd:=⟨x.ρ,x.κ,(t,i) :: x.τ⟩
theorem Wd.le_addI (x:Wd) (t:Nat) (i:Int):x.le (x.addI t i):=⟨List.prefix_refl _,fun _ m=>m,fun _ m=>List.mem_cons_of_mem _ m⟩
theorem VR.newI (x:Wd) (t:Nat) (i:Int):VR (x.addI t i) (.int i) (.int i t):=⟨t,List.mem_cons_self,rfl⟩
theorem Rl.newInt (z:Rl g x H s) (i:Int):Rl g (x.addI s.toks i) H { s with toks:=s.toks+1 }∧Step [] x s (x.addI s.toks i) { s with toks:=s.toks+1 }:=
  have kb:KeepB x [] s.heap s.heap:=fun b o e _ _ _=>.inl e
  have old:∀ {j:Int},(s.toks,j)∉x.τ:=fun m=>absurd (z.tok _ m).2 (Nat.lt_irrefl _)
  z.move (x.le_addI s.toks i) kb XOk.nil (Nat.le_succ _) (Live.refl _) (fun _ a b=>absurd a b) (fun _ e=>e)
    (fun p m=>(List.mem_cons.mp m).elim (fun e=>e ▸ ⟨Nat.ne_of_gt z.pos,Nat.lt_succ_self _⟩) fun m=>⟨(z.tok p m).1,Nat.lt_succ_of_lt (z.tok p m).2⟩)
    (fun t j k h1 h2=>(List.mem_cons.mp h1).elim (fun e1=>(List.mem_cons.mp h2).elim (fun e2=>congrArg Prod.snd (e1.trans e2.symm)) fun m=>absurd ((Prod.mk.inj e1).1 ▸ m) old)
      fun m1=>(List.mem_cons.mp h2).elim (fun e2=>absurd ((Prod.mk.inj e2).1 ▸ m1) old) fun m2=>z.tfun t j k m1 m2)
    z.kfun z.len z.nd z.low (fun j o a e1 e2=>z.orKept XOk.nil (x.le_addI _ _) kb (fun _ a b=>absurd a b) (z.obj j o a e1 e2) fun _ e=>e) fun P q m=>(z.tab P q m).at (fun _ h=>h) (fun _ e=>e) (kb.code z XOk.nil)
end
noncomputable abbrev Loc:=List (Str × AV)
structure K where
  scope:Scope
  qual:Str
  cells:List (Str × Nat)
  hd:Bool
  lam:Bool
structure Cx where
  g : Gx
  n : Nat
  k : K
noncomputable abbrev Cx.M (c:Cx):Model:=c.g.M
noncomputable abbrev Post (α:Type):=α→Shared→Prop
theorem wpIfNeg {s:Shared} {α:Type} {M:Model} {A:Around} {Q:Post α} {E:Post Value} {c:Prop} [Decidable c] {a b:Sem α} (hc:¬ c) (h:wpAny M A b Q E s):wpAny M A (if c then a else b) Q E s:=(if_neg hc).symm ▸ h
theorem wpIfPos {s:Shared} {α:Type} {M:Model} {A:Around} {Q:Post α} {E:Post Value} {c:Prop} [Decidable c] {a b:Sem α} (hc:c) (h:wpAny M A a Q E s):wpAny M A (if c then a else b) Q E s:=(if_pos hc).symm ▸ h
noncomputable def FrOk (x:Wd) (h:Heap) (l:List Env):Prop:=
  ∀ env∈l,env.scope.kind ≠ .module∧∃ L,env.frame=some L∧179≤L∧¬ x.own L∧∃ o,h.get? L=some o∧∃ es n,o.data = .dict es n
structure Amb (x:Wd) (h:Heap) (A:Around) (n:Nat) (hd:Bool):Prop where
  depth:A.depth+n < recursionLimit
  units:A.units+20 * n+200 < cLine
  hdl:A.handled=none∨(hd=true∧∃ e,A.handled=some (.ref e)∧ExcAt h e)
  frames:∃ l,A.frames=some l∧FrOk x h l
noncomputable def Locals (x:Wd) (h:Heap) (l:Loc) (L:Addr):Prop:=∃ m,h.Ns L m∧∀ n av,l.lookup n=some av→∃ v,m n=some v∧VR x av v
noncomputable def DictAt (h:Heap) (L:Addr):Prop:=∃ o,h.get? L=some o∧∃ es n,o.data = .dict es n
structure EnvB (x:Wd) (h:Heap) (k:K) (l:Loc) (env:Env):Prop where
  scope:env.scope=k.scope
  kind:k.scope.kind = .function
  qual:env.qual=k.qual
  glob:env.globals=mainGlobals
  blt:env.builtins=builtinsNs
  cells:CRs x.ρ k.cells env.cells
  ns:Locals x h l env.locals
  lown:¬ x.own env.locals
  llow:179≤env.locals
structure EnvR (x:Wd) (h:Heap) (A:Around) (k:K) (l:Loc) (env:Env):Prop where
  b : EnvB x h k l env
  fr:∃ e₀ outer,A.frames=some (e₀ :: outer)∧e₀.frame=env.frame∧env.frame.isSome=true
  code:k.lam=true→∃ c P,env.code = .ref c∧CodeHd h c P∧(P,env.qual)∈x.κ
inductive FlyAt (v:Value) (h:Heap) (e:Addr):Prop
  | mk {o:Obj} {vs:Array Value} {T:Addr} {oT:Obj} {ts:Array Value}:h.get? e=some o→o.data = .fields vs→vs[1]? = some (.ref T)→h.get? T=some oT→oT.cls = .type "traceback"→oT.data = .fields ts→ts[3]? = some v→FlyAt v h e
noncomputable def Flight (h:Heap) (e:Addr):Prop:=(∃ o vs,h.get? e=some o∧o.data = .fields vs∧vs[1]? = some .none)∨FlyAt .none h e
noncomputable def FlightIn (env:Env) (h:Heap) (e:Addr):Prop:=Flight h e∨∃ L,env.frame=some L∧FlyAt (rawInt L) h e
section
variable {g:Gx} {x y:Wd} {H:AHeap} {s t:Shared} {A:Around} {n:Nat} {hd:Bool} {k:K} {l:Loc} {env:Env} {h h':Heap} {L:Addr} {X:List Addr}
theorem DictAt.step (st:Step X x s y t) (hX:L∉X) (no:¬ x.own L) (d:DictAt s.heap L):DictAt t.heap L:=
  d.elim fun o d=>(st.keep L o d.1 no hX (.dict d.2)).elim (fun q=>⟨o,q,d.2⟩) fun q=>q.2.2.elim fun _ q=>⟨_,q,d.2⟩
theorem FrOk.step (st:Step X x s y t) {l:List Env} (f:FrOk x s.heap l) (hX:∀ L∈X,DictAt t.heap L):FrOk y t.heap l:=fun env he =>
  (f env he).imp id fun f=>f.imp fun L f=>f.imp id fun f=>f.imp id fun f=>⟨f.2.elim fun _ d=>st.old d.1 f.1,(Classical.em (L∈X)).elim (hX L) fun q=>DictAt.step st q f.1 f.2⟩
theorem Amb.step (st:Step X x s y t) (a:Amb x s.heap A n hd) (hX:∀ L∈X,DictAt t.heap L):Amb y t.heap A n hd:=
  ⟨a.depth,a.units,a.hdl.imp id fun q=>q.imp id fun q=>q.imp fun e q=>q.imp id (st.exc e),a.frames.imp fun _ q=>q.imp id fun q=>q.step st hX⟩
theorem Amb.calm (a:Amb x h A n false):A.handled=none:=a.hdl.elim id fun q=>nomatch q.1
theorem Amb.step0 (st:Step [] x s y t) (a:Amb x s.heap A n hd):Amb y t.heap A n hd:=a.step st fun _ m=>nomatch m
theorem Amb.le {m:Nat} (a:Amb x h A n hd) (l:m≤n):Amb x h A m hd:=⟨Nat.lt_of_le_of_lt (Nat.add_le_add_left l _) a.depth,Nat.lt_of_le_of_lt (Nat.add_le_add_right (Nat.add_le_add_left (Nat.mul_le_mul_left _ l) _) _) a.units,a.hdl,a.frames⟩
theorem Amb.room (a:Amb x h A n hd):A.units+200 < cLine:=Nat.lt_of_le_of_lt (Nat.add_le_add_right (Nat.le_add_right _ _) 200) a.units
theorem ns_step (st:Step X x s y t) (hL:L∉X) (no:¬ x.own L) {m:Str→Option Value} (h:s.heap.Ns L m):t.heap.Ns L m:=
  h.elim fun o h=>h.elim fun es h=>h.elim fun ep h=>(st.keep L o h.1 no hL (.dict ⟨es,ep,h.2.1⟩)).elim (fun q=>⟨o,es,ep,q,h.2⟩) fun q=>q.2.2.elim fun _ q=>⟨_,es,ep,q,h.2⟩
theorem Locals.mono (le:x.le y) (k:∀ m,h.Ns L m→h'.Ns L m) (r:Locals x h l L):Locals y h' l L:=
  r.imp fun m r=>⟨k m r.1,fun n av e=>(r.2 n av e).imp fun _ q=>⟨q.1,q.2.mono le⟩⟩
theorem Ns.dict {m:Str→Option Value} (n:h.Ns L m):DictAt h L:=n.imp fun _ n=>n.elim fun es n=>n.elim fun k n=>⟨n.1,es,k,n.2.1⟩
theorem Locals.dict (r:Locals x h l L):DictAt h L:=r.elim fun _ r=>Ns.dict r.1
theorem XOk.one (lo:179≤L) (d:DictAt h L):XOk h [L]:=fun _ m=>List.mem_singleton.mp m ▸ ⟨lo,d.imp fun _ d=>⟨d.1,.inl d.2⟩⟩
theorem EnvB.step (st:Step [] x s y t) (r:EnvB x s.heap k l env):EnvB y t.heap k l env:=
  ⟨r.scope,r.kind,r.qual,r.glob,r.blt,r.cells.mono st.le.1,r.ns.mono st.le fun _=>ns_step st (fun q=>nomatch q) r.lown,r.ns.dict.elim fun _ d=>st.old d.1 r.lown,r.llow⟩
theorem code_step (le:x.le y) (kc:KeepC h h') (r:∃ c P,env.code = .ref c∧CodeHd h c P∧(P,env.qual)∈x.κ):∃ c P,env.code = .ref c∧CodeHd h' c P∧(P,env.qual)∈y.κ:=
  r.imp fun _ r=>r.imp fun _ r=>⟨r.1,codeHd_own r.2.1 (kc.at r.2.1),le.2.1 _ r.2.2⟩
theorem EnvR.step (z:Rl g x H s) (st:Step [] x s y t) (r:EnvR x s.heap A k l env):EnvR y t.heap A k l env:=
  ⟨r.b.step st,r.fr,fun q=>code_step st.le (st.keep.code z XOk.nil) (r.code q)⟩
end
structure Ready (c:Cx) (l:Loc) (H:AHeap) (x:Wd) (s:Shared) (A:Around) (env:Env):Prop where
  z : Rl c.g x H s
  r : EnvR x s.heap A c.k l env
  a : Amb x s.heap A c.n c.k.hd
inductive AFlow where
  | next | ret (v:AV) | exc (i:Nat)
structure SOut where
  fl:AFlow
  loc:Loc
  H : AHeap
noncomputable abbrev Ok {α β:Type} (g:Gx) (R:Wd→α→β→Prop) (x:Wd) (s:Shared) (a:α) (H:AHeap) (Q:Post β):Prop:=∀ {y t b},Step [] x s y t→Rl g y H t→R y a b→Q b t
noncomputable abbrev Rs (g:Gx) (x:Wd) (s:Shared) (i:Nat) (H:AHeap) (E:Post Value):Prop:=∀ {y t e},Step [] x s y t→Rl g y H t→y.ρ[i]? = some e→Flight t.heap e→E (.ref e) t
noncomputable abbrev BRel:Wd→Bool→Bool→Prop:=fun _ a v=>a=v
noncomputable abbrev NsRel (ks:List Keyword):Wd→List (Str × AV)→List Value→Prop:=fun x a v=>NRs x a ((ks.filterMap (·.arg)).zip v)
noncomputable def plainArgs (es:List Expr) (env:Env):List (Bool × Sem Value):=es.map fun e=>(false,eval e env)
section
variable {α:Type} {c:Cx} {g:Gx} {x y:Wd} {H H':AHeap} {s t:Shared} {A:Around} {l l':Loc} {env:Env}
theorem Ready.step (p:Ready c l H x s A env) (st:Step [] x s y t) (z:Rl c.g y H' t):Ready c l H' y t A env:=⟨z,p.r.step p.z st,p.a.step0 st⟩
theorem Ready.locD (p:Ready c l H x s A env):∀ L∈[env.locals],DictAt s.heap L:=fun _ m=>List.mem_singleton.mp m ▸ p.r.b.ns.dict
theorem Ready.stepF (p:Ready c l H x s A env) (st:Step [env.locals] x s y t) (z:Rl c.g y H' t) (r:EnvR y t.heap A c.k l' env):Ready c l' H' y t A env:=
  ⟨z,r,p.a.step st fun _ m=>List.mem_singleton.mp m ▸ r.b.ns.dict⟩
theorem Ok.mv {β:Type} {R:Wd→α→β→Prop} {a:α} {Q:Post β} (st:Step [] x s y t) (d:Ok g R x s a H Q):Ok g R y t a H Q:=fun s z r=>d (st.trW s) z r
theorem Ok.here {β:Type} {R:Wd→α→β→Prop} {a:α} {b:β} {Q:Post β} (d:Ok g R x s a H Q) (z:Rl g x H s) (r:R x a b):Q b s:=d (Step.refl _ _ _) z r
theorem Ok.int {i:Int} {Q:Post Value} (d:Ok g VR x s (.int i) H Q) (z:Rl g x H s):Q (.int i s.toks) { s with toks:=s.toks+1 }:=d (z.newInt i).2 (z.newInt i).1 (VR.newI _ _ _)
theorem Ok.bool {b:Bool} {Q:Post Value} (d:Ok g VR x s (.bool b) H Q) (z:Rl g x H s):Q (.bool b) s:=d.here z rfl
theorem Rl.new (z:Rl g x H s) {ob:Obj} {o:AObj} (hf:ob.isFreed=false) (r:∀ {h:Heap},h.get? s.heap.objs.size=some ob→OR g (x.add s.heap.objs.size) h s.heap.objs.size o) (tk:Nat) (ht:s.toks≤tk:=by first | assumption | exact Nat.le_refl _ | exact Nat.le_succ _) :
    Rl g (x.add s.heap.objs.size) (H++[o]) { s with heap:=s.heap.push ob,toks:=tk }∧Step [] x s (x.add s.heap.objs.size) { s with heap:=s.heap.push ob,toks:=tk }:=
  z.add (fun _ _ e=>Heap.get?_push_of_some _ e) (Heap.get?_none_of_le (Nat.le_refl _)) (r (Heap.get?_push_size _ hf)) ht
theorem Ok.new {Q:Post Value} {o:AObj} (d:Ok g VR x s (.ob H.length) (H++[o]) Q) (z:Rl g x H s) {ob:Obj} (hf:ob.isFreed=false) (r:∀ {h:Heap},h.get? s.heap.objs.size=some ob→OR g (x.add s.heap.objs.size) h s.heap.objs.size o)
    (tk:Nat) (ht:s.toks≤tk:=by first | assumption | exact Nat.le_refl _ | exact Nat.le_succ _):Q (.ref s.heap.objs.size) { s with heap:=s.heap.push ob,toks:=tk }:=
  d (z.new hf r tk ht).2 (z.new hf r tk ht).1 ⟨_,z.get _,rfl⟩
theorem Ok.newList {Q:Post Value} {xs:List AV} (d:Ok g VR x s (.ob H.length) (H++[.list xs]) Q) (z:Rl g x H s) {vs:List Value} (r:VRs x xs vs) (tk:Nat) (ht:s.toks≤tk:=by first | assumption | exact Nat.le_refl _ | exact Nat.le_succ _) :
    Q (.ref s.heap.objs.size) { s with heap:=s.heap.push (seqOb "list" vs 0),toks:=tk }:=d.new z rfl (fun e=>⟨vs,0,e,r.mono (x.le_add _)⟩) tk ht
end
noncomputable def Ev (c:Cx) (l:Loc) (H:AHeap) (e:Expr) (v:AV) (H':AHeap):Prop:=
  ∀ {x s A env},Ready c l H x s A env→∀ {Q E},Ok c.g VR x s v H' Q→wpAny c.M A (eval e env) Q E s
noncomputable def EvX (c:Cx) (l:Loc) (H:AHeap) (e:Expr) (i:Nat) (H':AHeap):Prop:=
  ∀ {x s A env},Ready c l H x s A env→∀ {Q E},Rs c.g x s i H' E→wpAny c.M A (eval e env) Q E s
noncomputable def Ts (c:Cx) (l:Loc) (H:AHeap) (e:Expr) (b:Bool) (H':AHeap):Prop:=
  ∀ {x s A env},Ready c l H x s A env→∀ {Q E},Ok c.g BRel x s b H' Q→wpAny c.M A (isTrue e env (eval e env)) Q E s
noncomputable def Es (c:Cx) (l:Loc) (H:AHeap) (es:List Expr) (vs:List AV) (H':AHeap):Prop:=
  ∀ {x s A env},Ready c l H x s A env→∀ {Q E},Ok c.g VRs x s vs H' Q→wpAny c.M A (spliced (plainArgs es env)) Q E s
noncomputable def Ks (c:Cx) (l:Loc) (H:AHeap) (ks:List Keyword) (vs:List (Str × AV)) (H':AHeap):Prop:=
  ∀ {x s A env},Ready c l H x s A env→∀ (pos:Pos) {Q E},Ok c.g (NsRel ks) x s vs H' Q→wpAny c.M A (evalAll ((backToKw pos (keywordEach ks env)).map (·.2))) Q E s
noncomputable def Call (g:Gx) (n:Nat) (hd:Bool) (H:AHeap) (f:AV) (args:List AV) (kws:List (Str × AV)) (v:AV) (H':AHeap):Prop:=
  ∀ {x s A fv vs ks},Rl g x H s→Amb x s.heap A n hd→VR x f fv→VRs x args vs→NRs x kws ks→∀ {Q E},Ok g VR x s v H' Q→wpAny g.M A (PySem.call fv vs ks) Q E s
noncomputable def CallX (g:Gx) (n:Nat) (hd:Bool) (H:AHeap) (f:AV) (args:List AV) (kws:List (Str × AV)) (i:Nat) (H':AHeap):Prop:=
  ∀ {x s A fv vs ks},Rl g x H s→Amb x s.heap A n hd→VR x f fv→VRs x args vs→NRs x kws ks→∀ {Q E},Rs g x s i H' E→wpAny g.M A (PySem.call fv vs ks) Q E s
noncomputable abbrev OkL (c:Cx) (A:Around) (env:Env) (x:Wd) (s:Shared) (l:Loc) (H:AHeap) (Q:Post Unit):Prop:=∀ {y t},Step [env.locals] x s y t→Ready c l H y t A env→Q () t
noncomputable def As (c:Cx) (l:Loc) (H:AHeap) (tg:Expr) (v:AV) (l':Loc) (H':AHeap):Prop:=
  ∀ {x s A env u},Ready c l H x s A env→VR x v u→∀ {Q E},OkL c A env x s l' H' Q→wpAny c.M A (assign tg env u) Q E s
noncomputable def DoneS (c:Cx) (A:Around) (env:Env) (x:Wd) (s:Shared) (r:SOut) (Q:Post Flow) (E:Post Value):Prop:=
  match r with
  | ⟨.next,l,H⟩=>∀ {y t},Step [env.locals] x s y t→Ready c l H y t A env→Q .next t
  | ⟨.ret v,l,H⟩=>∀ {y t u},Step [env.locals] x s y t→Ready c l H y t A env→VR y v u→Q (.ret u) t
  | ⟨.exc i,l,H⟩=>∀ {y t e},Step [env.locals] x s y t→Ready c l H y t A env→y.ρ[i]? = some e→FlightIn env t.heap e→E (.ref e) t
theorem DoneS.mv {c:Cx} {A:Around} {env:Env} {x y:Wd} {s t:Shared} {r:SOut} {Q:Post Flow} {E:Post Value} (st:Step [env.locals] x s y t) (d:DoneS c A env x s r Q E):DoneS c A env y t r Q E:=
  match r,d with
  | ⟨.next,_,_⟩,d=>fun s p=>d (st.trX s) p
  | ⟨.ret _,_,_⟩,d=>fun s p=>d (st.trX s) p
  | ⟨.exc _,_,_⟩,d=>fun s p=>d (st.trX s) p
noncomputable def St (c:Cx) (l:Loc) (H:AHeap) (st:Stmt) (r:SOut):Prop:=
  ∀ {x s A env},Ready c l H x s A env→∀ {Q E},DoneS c A env x s r Q E→wpAny c.M A (exec st env) Q E s
noncomputable def Ex (c:Cx) (l:Loc) (H:AHeap) (b:List Stmt) (r:SOut):Prop:=
  ∀ {x s A env},Ready c l H x s A env→∀ {Q E},DoneS c A env x s r Q E→wpAny c.M A (execs b env) Q E s
end Mine
namespace Mine
open PySem PySem.Calls PyProof.Rows PySem.W PySem.SeqAt PySem.Spec
section
variable {c:Cx} {g:Gx} {x y:Wd} {H H1 H2 H3:AHeap} {s t:Shared} {A:Around} {l:Loc} {env:Env} {k:K} {e e1 e2:Expr} {v v1 v2:AV} {nm:Str} {pos:Pos} {Q:Post Value} {E:Post Value} {n:Nat} {hd:Bool}
theorem EnvB.kindE (r:EnvB x s.heap k l env):env.scope.kind = .function:=r.scope ▸ r.kind
theorem EnvB.kof (r:EnvB x s.heap k l env) (nm:Str):env.kindOf nm=k.scope.names.lookup nm:=congrArg (fun q:Scope=>q.names.lookup nm) r.scope
noncomputable def locQ (k:K) (nm:Str):Bool:=(k.scope.names.lookup nm == some .local) && !(nm == ("__debug__" : Str))
noncomputable def cellQ (k:K) (nm:Str):Option Nat:=if (k.scope.names.lookup nm == some .cell || k.scope.names.lookup nm == some .free) && !(nm == ("__debug__" : Str)) && !(nm == ("__classdict__" : Str)) then k.cells.lookup nm else none
noncomputable def globQ (k:K) (nm:Str):Bool:=(k.scope.names.lookup nm == some .globalImplicit) && !(nm == ("__debug__" : Str))
theorem and2 {a b:Bool} (h:(a && !b)=true):a=true∧b=false:=by revert h;cases a <;> cases b <;> decide
theorem ev_loc (h:locQ c.k nm=true) (e:l.lookup nm=some v):Ev c l H (.Name nm pos) v H:=fun p _ _ d =>
  have q:=and2 h
  p.r.b.ns.elim fun _ n=>(n.2 nm v e).elim fun _ m=>wpAny_Name (wpAny_loadName_local p.r.b.kindE ((p.r.b.kof nm).trans (eq_of_beq q.1)) n.1 m.1 (d.here p.z m.2)) q.2
theorem ev_cell {i:Nat} (h:cellQ c.k nm=some i) (e:H[i]? = some (.cell (some v))):Ev c l H (.Name nm pos) v H:=fun {x s A env} p _ _ d=>by
  unfold cellQ at h
  split at h
  · rename_i q
    have q1:=and2 q
    have q2:=and2 q1.1
    exact (p.r.b.cells.look h).elim fun a m=>(p.z.obj i _ a e m.2).elim fun u o=>o.2.elim fun w hw=>wpAny_Name ((Bool.or_eq_true_iff.mp q2.1).elim
      (fun q=>wpAny_loadName_cell p.r.b.kindE ((p.r.b.kof nm).trans (eq_of_beq q)) m.1 ⟨_,o.1,congrArg Data.cell hw.1⟩ (d.here p.z hw.2))
      fun q=>wpAny_loadName_free p.r.b.kindE ((p.r.b.kof nm).trans (eq_of_beq q)) m.1 ⟨_,o.1,congrArg Data.cell hw.1⟩ (d.here p.z hw.2) q1.2) q2.2
  · cases h
theorem global_wp (r:EnvB x s.heap k l env) (h:globQ k nm=true) (hl:wpAny g.M A (loadGlobal env nm) Q E s):wpAny g.M A (eval (.Name nm pos) env) Q E s:=by
  have q:=and2 h
  exact wpAny_Name ((loadName_read r.kindE ((r.kof nm).trans (eq_of_beq q.1))).symm ▸ hl) q.2
theorem ev_glob {a:Nat} (h:globQ c.k nm=true) (e:glob.lookup nm=some a):Ev c l H (.Name nm pos) (.top a) H:=fun p _ _ d =>
  p.z.tp.ns.elim fun _ n=>n.elim fun _ n=>global_wp p.r.b h (loadGlobal_global (p.r.b.glob ▸ n.1) (n.2.2.1 nm a e).1 (d.here p.z ⟨rfl,(n.2.2.1 nm a e).2⟩))
theorem ev_blt {b:Bool × String} (h:globQ c.k nm=true) (e:bglob.lookup nm=some b):Ev c l H (.Name nm pos) (bltA b) H:=fun p _ _ d =>
  p.z.tp.ns.elim fun _ n=>n.elim fun _ n=>global_wp p.r.b h (loadGlobal_builtin (p.r.b.glob ▸ n.1) (n.2.2.2.1 nm b e).1 (p.r.b.blt ▸ n.2.1) (n.2.2.2.1 nm b e).2 (d.here p.z (match b with | (true,_)=>rfl | (false,_)=>rfl)))
theorem ev_int {i:Int} {a:Nat}:Ev c l H (.Constant (.int i) a pos) (.int i) H:=fun p _ _ d=>wpAny_mkInt (d.int p.z)
theorem ev_str {i:Str} {a:Nat}:Ev c l H (.Constant (.str i) a pos) (.str i) H:=fun p _ _ d=>wpAny_mkText (d (p.z.toks _).2 (p.z.toks _).1 ⟨_,rfl⟩)
theorem ev_none {a:Nat}:Ev c l H (.Constant .none a pos) .none H:=fun p _ _ d=>wpAny_pure (d.here p.z rfl)
theorem ev_bool {b:Bool} {a:Nat}:Ev c l H (.Constant (.bool b) a pos) (.bool b) H:=fun p _ _ d=>wpAny_pure (d.here p.z rfl)
noncomputable def Bin (g:Gx) (op:Operator) (a b:AV) (H:AHeap) (v:AV) (H':AHeap):Prop:=
  ∀ {x s A va vb},Rl g x H s→VR x a va→VR x b vb→∀ {Q E},Ok g VR x s v H' Q→wpAny g.M A (binaryOp op va vb) Q E s
theorem ev_bin {op:Operator} (h1:Ev c l H e1 v1 H1) (h2:Ev c l H1 e2 v2 H2) (h3:Bin c.g op v1 v2 H2 v H3):Ev c l H (.BinOp e1 op e2 pos) v H3:=fun p _ _ d=>by
  rw [arm_eval_BinOp]
  exact wpAny_bind (h1 p fun s1 z1 r1=>wpAny_bind (wpAny_holding (h2 (p.step s1 z1) fun s2 z2 r2=>wpAny_bind (wpAny_standAt (wpAny_operating (h3 z2 (r1.mono s2.le) r2 (d.mv (s1.trW s2))))))))
theorem intsP {a b:Int} {va vb:Value} (h1:VR x (.int a) va) (h2:VR x (.int b) vb) {P:Value→Value→Prop} (h:∀ t u,(t,a)∈x.τ→(u,b)∈x.τ→P (.int a t) (.int b u)):P va vb:=
  h1.elim fun t q=>h2.elim fun u r=>q.2 ▸ r.2 ▸ h t u q.1 r.1
theorem b_add {a b:Int}:Bin g .Add (.int a) (.int b) H (.int (a+b)) H:=fun z h1 h2 _ _ d=>intsP h1 h2 (P:=fun u v=>wpAny _ _ (binaryOp .Add u v) _ _ _) fun _ _ _ _=>Mine.P.add_int (d.int z)
theorem b_sub {a b:Int}:Bin g .Sub (.int a) (.int b) H (.int (a - b)) H:=fun z h1 h2 _ _ d=>intsP h1 h2 (P:=fun u v=>wpAny _ _ (binaryOp .Sub u v) _ _ _) fun _ _ _ _=>Mine.P.sub_int (d.int z)
theorem b_mul {a b:Int} (hb:-(2 ^ 64) < b∧b < 2 ^ 64):Bin g .Mult (.int a) (.int b) H (.int (a * b)) H:=fun z h1 h2 _ _ d =>
  intsP h1 h2 (P:=fun u v=>wpAny _ _ (binaryOp .Mult u v) _ _ _) fun _ _ _ _=>Mine.P.mul_int (d.int z) (IntMulOk.of_right (intBits_le_64 hb.1 hb.2))
theorem b_div {a b:Int} (hb:0 < b∧b.natAbs < 1073741824):Bin g .FloorDiv (.int a) (.int b) H (.int (a.fdiv b)) H:=fun z h1 h2 _ _ d =>
  intsP h1 h2 (P:=fun u v=>wpAny _ _ (binaryOp .FloorDiv u v) _ _ _) fun _ _ _ _=>floordiv_int (Int.ne_of_gt hb.1) (d.int z) (.inl (PyProof.noPylong_small hb.2))
theorem b_mod {a b:Int} (hb:0 < b):Bin g .Mod (.int a) (.int b) H (.int (a.fmod b)) H:=fun z h1 h2 _ _ d =>
  intsP h1 h2 (P:=fun u v=>wpAny _ _ (binaryOp .Mod u v) _ _ _) fun _ _ _ _=>mod_int' (Int.ne_of_gt hb) (d.int z)
theorem Rl.list (z:Rl g x H s) {i:Nat} {xs:List AV} {va:Value} (e:H[i]? = some (.list xs)) (h:VR x (.ob i) va) {P:Value→Prop}
    (k:∀ a vs n,x.ρ[i]? = some a→s.heap.get? a=some (seqOb "list" vs n)→VRs x xs vs→P (.ref a)):P va:=
  h.elim fun a q=>(z.obj i _ a e q.1).elim fun vs o=>o.elim fun n o=>q.2 ▸ k a vs n q.1 o.1 o.2
theorem Rl.tup (z:Rl g x H s) {i:Nat} {xs:List AV} {va:Value} (e:H[i]? = some (.tup xs)) (h:VR x (.ob i) va) {P:Value→Prop}
    (k:∀ a vs n,x.ρ[i]? = some a→s.heap.get? a=some (seqOb "tuple" vs n)→VRs x xs vs→P (.ref a)):P va:=
  h.elim fun a q=>(z.obj i _ a e q.1).elim fun vs o=>o.elim fun n o=>q.2 ▸ k a vs n q.1 o.1 o.2
theorem Rl.dict (z:Rl g x H s) {i:Nat} {es:List (Str × AV)} {va:Value} (e:H[i]? = some (.dict es)) (h:VR x (.ob i) va) {P:Value→Prop}
    (k:∀ a vs,x.ρ[i]? = some a→s.heap.DictOf g.kd a vs→NRs x es vs→P (.ref a)):P va:=
  h.elim fun a q=>(z.obj i _ a e q.1).elim fun vs o=>q.2 ▸ k a vs q.1 o.1 o.2
theorem isList {h:Heap} {a:Addr} {vs:List Value} {n:Nat} (e:h.get? a=some (seqOb "list" vs n)):h.IsList a vs.toArray:=⟨_,e,rfl,n,rfl⟩
theorem isTuple {h:Heap} {a:Addr} {vs:List Value} {n:Nat} (e:h.get? a=some (seqOb "tuple" vs n)):h.IsTuple a vs.toArray:=⟨_,e,rfl,n,rfl⟩
theorem bigLine:1000≤sizeLine:=sizeLine_eq ▸ by decide
theorem size_le {xs:List AV} {vs:List Value} (r:VRs x xs vs) (h:xs.length≤1000):vs.toArray.size≤sizeLine:=Nat.le_trans (show vs.length≤1000 from r.length ▸ h) bigLine
theorem b_cat {i j:Nat} {xs ys:List AV} (h1:H[i]? = some (.list xs)) (h2:H[j]? = some (.list ys)) (hl:(xs++ys).length≤1000):Bin g .Add (.ob i) (.ob j) H (.ob H.length) (H++[.list (xs++ys)]):=fun {x s A _ _} z r1 r2 Q E d =>
  z.list h1 r1 (P:=fun u=>wpAny _ _ (binaryOp .Add u _) _ _ _) fun _ vs _ _ g1 q1=>z.list h2 r2 (P:=fun u=>wpAny _ _ (binaryOp .Add _ u) _ _ _) fun _ us _ _ g2 q2 =>
    Mine.P.add_list g1 g2 ((show vs.toArray++us.toArray=(vs++us).toArray by simp) ▸ d.newList z (q1.append q2) _) (Nat.le_trans (show vs.length+us.length≤1000 from q1.length ▸ q2.length ▸ List.length_append ▸ hl) bigLine)
noncomputable def repA (xs:List AV):Nat→List AV
  | 0 => []
  | n + 1=>xs++repA xs n
theorem foldl_rep (items:Array Value):∀ (k:Nat) (acc:List Value),(List.foldl (fun x1 x2=>x1++x2) acc.toArray (List.replicate k items))=(acc++(List.replicate k items.toList).flatten).toArray
  | 0,acc=>by simp
  | k + 1,acc=>by
    rw [List.replicate_succ,List.foldl_cons,show acc.toArray++items=(acc++items.toList).toArray by simp,foldl_rep items k]
    simp [List.replicate_succ]
theorem VRs.rep {xs:List AV} {vs:List Value} (r:VRs x xs vs):∀ n,VRs x (repA xs n) ((List.replicate n vs).flatten)
  | 0 => .nil
  | n + 1=>by rw [List.replicate_succ,List.flatten_cons];exact r.append (r.rep n)
theorem b_rep {i:Nat} {xs:List AV} {j:Int} (h1:H[i]? = some (.list xs)) (hj:Builtin.List.listFitsIndex j=true) (hl:xs.length * j.toNat≤1000):Bin g .Mult (.ob i) (.int j) H (.ob H.length) (H++[.list (repA xs j.toNat)]):=fun {x s A _ _} z r1 r2 Q E d =>
  z.list h1 r1 (P:=fun u=>wpAny _ _ (binaryOp .Mult u _) _ _ _) fun a vs m _ g1 q1=>r2.elim fun t' q2=>q2.2 ▸
    have hs:vs.length * j.toNat≤1000:=q1.length ▸ hl
    up (wpAny_binaryOp_repeat_ref (T:="list") (U:="int") (by decide) ⟨_,g1,rfl⟩ (fun s'=>typeIs_int s' j t') noFill_list_mul F.fills_int_mul F.slot_int_rmul repeat_list F.slot_int_index.lookup
          (PySem.call_meets F.slot_int_rmul (typeIs_int s j t') F.entry_int_rmul (F.args_int_rmul_2 _ _) (int___rmul___int_list j t' a vs.toArray m)
            ⟨g1,rfl,⟨_,g1,rfl⟩,PySem.call_meets F.slot_list_mul ⟨_,g1,rfl⟩ F.entry_list_mul (F.args_list_mul_2 _ _)
              (AutoListH.list___mul___list_int_3 a vs.toArray m j t' (by rw [hj];exact Bool.false_ne_true) (Nat.not_lt.mpr (Nat.le_trans hs (by decide))) fun q=>absurd (of_decide_eq_true q) (Nat.not_lt.mpr (Nat.le_trans hs bigLine)))
              ⟨g1,(show _=((List.replicate j.toNat vs).flatten).toArray from (foldl_rep vs.toArray (if vs.toArray.isEmpty=true then 0 else j.toNat) []).trans (by cases vs <;> simp)) ▸ d.newList z (q1.rep j.toNat) _⟩⟩))
theorem ev_neg {i:Int} (h:Ev c l H e (.int i) H1):Ev c l H (.UnaryOp .USub e pos) (.int (-i)) H1:=fun p _ _ d=>by
  rw [arm_eval_UnaryOp]
  exact wpAny_bind (h p fun s1 z1 r1=>wpAny_bind (wpAny_standAt (wpAny_holding (r1.elim fun _ q=>q.2 ▸ Mine.P.neg_int (Ok.int (d.mv s1) z1)))))
theorem ev_ifexp {t:Expr} {b:Bool} (h:Ts c l H t b H1) (h2:Ev c l H1 (if b=true then e1 else e2) v H2):Ev c l H (.IfExp t e1 e2 pos) v H2:=fun p _ _ d=>by
  rw [arm_eval_IfExp]
  refine wpAny_bind (h p fun s1 z1 r1=>?_)
  subst r1
  cases b
  · exact h2 (p.step s1 z1) (d.mv s1)
  · exact h2 (p.step s1 z1) (d.mv s1)
noncomputable abbrev Plain (es:List Expr):Prop:=∀ pos env,backTo pos (starEach es env)=plainArgs es env
theorem es_nil:Es c l H [] [] H:=fun p _ _ d=>wpAny_pure (d.here p.z .nil)
theorem es_cons {r:List Expr} {vs:List AV} (h1:Ev c l H e v H1) (h2:Es c l H1 r vs H2):Es c l H (e :: r) (v :: vs) H2:=fun p _ _ d =>
  spliced_cons (h1 p fun s1 z1 r1=>h2 (p.step s1 z1) fun s2 z2 r2=>d (s1.trW s2) z2 (.cons (r1.mono s2.le) r2))
theorem ev_list {es:List Expr} {vs:List AV} (hn:Plain es) (h:Es c l H es vs H1) (hl:vs.length≤1000):Ev c l H (.List es pos) (.ob H1.length) (H1++[.list vs]):=fun p _ _ d=>by
  rw [arm_eval_List,hn pos _]
  exact wpAny_bind (wpAny_standAt (wpAny_bind (h p fun s1 z1 r1=>wpAny_newObj_type (dict:=none) (Ok.newList (d.mv s1) z1 r1 _) (size_le r1 hl))))
theorem ev_tup {es:List Expr} {vs:List AV} {i:Nat} (hn:Plain es) (h:Es c l H es vs H1) (hl:vs.length≤1000):Ev c l H (.Tuple es i pos) (.ob H1.length) (H1++[.tup vs]):=fun p _ _ d=>by
  rw [arm_eval_Tuple,hn pos _]
  exact wpAny_bind (wpAny_standAt (wpAny_bind (h p fun s1 z1 r1=>wpAny_newObj_type (dict:=none) (Ok.new (d.mv s1) z1 rfl (fun e=>⟨_,0,e,r1.mono (Wd.le_add _ _)⟩) _) (size_le r1 hl))))
end
section
variable {c:Cx} {g:Gx} {x y:Wd} {H H1 H2 H3:AHeap} {s t:Shared} {A:Around} {l:Loc} {env:Env} {k:K} {e e1 e2:Expr} {v v1 v2:AV} {nm:Str} {pos:Pos} {Q:Post Value} {E:Post Value} {n:Nat} {hd:Bool} {b:Bool}
noncomputable def Cmp (g:Gx) (op:CmpOp) (a b:AV) (H:AHeap) (r:Bool):Prop:=
  ∀ {x s A va vb},Rl g x H s→A.units+200 < cLine→VR x a va→VR x b vb→∀ {Q E},Q (.bool r) s→wpAny g.M A (compareOp op va vb) Q E s
theorem c_lt {a b:Int}:Cmp g .Lt (.int a) (.int b) H (decide (a < b)):=fun z _ h1 h2 _ _ d=>intsP h1 h2 (P:=fun u v=>wpAny _ _ (compareOp .Lt u v) _ _ _) fun _ _ _ _=>Mine.P.lt_int d
theorem c_le {a b:Int}:Cmp g .LtE (.int a) (.int b) H (decide (a≤b)):=fun z _ h1 h2 _ _ d=>intsP h1 h2 (P:=fun u v=>wpAny _ _ (compareOp .LtE u v) _ _ _) fun _ _ _ _=>Mine.P.le_int d
theorem c_gt {a b:Int}:Cmp g .Gt (.int a) (.int b) H (decide (b < a)):=fun z _ h1 h2 _ _ d=>intsP h1 h2 (P:=fun u v=>wpAny _ _ (compareOp .Gt u v) _ _ _) fun _ _ _ _=>Mine.P.gt_int d
theorem c_eq_int {a b:Int}:Cmp g .Eq (.int a) (.int b) H (a == b):=fun z _ h1 h2 _ _ d=>intsP h1 h2 (P:=fun u v=>wpAny _ _ (compareOp .Eq u v) _ _ _) fun _ _ _ _=>Mine.P.eq_int d
theorem c_ne_int {a b:Int}:Cmp g .NotEq (.int a) (.int b) H (!(a == b)):=fun z _ h1 h2 _ _ d=>intsP h1 h2 (P:=fun u v=>wpAny _ _ (compareOp .NotEq u v) _ _ _) fun _ _ _ _=>Mine.P.ne_int d
theorem c_eq_str {a b:Str}:Cmp g .Eq (.str a) (.str b) H (a == b):=fun z _ h1 h2 _ _ d=>h1.elim fun _ q=>h2.elim fun _ r=>q ▸ r ▸ eq_str d
theorem c_ne_str {a b:Str}:Cmp g .NotEq (.str a) (.str b) H (!(a == b)):=fun z _ h1 h2 _ _ d=>h1.elim fun _ q=>h2.elim fun _ r=>q ▸ r ▸ ne_str d
theorem c_is_none:Cmp g .Is .none .none H true:=fun z _ h1 h2 _ _ d=>by
  subst h1 h2
  exact wpAny_is_plain rfl d
theorem c_is_bool {a b:Bool}:Cmp g .Is (.bool a) (.bool b) H (a == b):=fun z _ h1 h2 _ _ d=>by
  subst h1 h2
  cases a <;> cases b <;> exact wpAny_is_plain rfl d
theorem c_int_none {i:Int}:Cmp g .Is (.int i) .none H false:=fun z _ h1 h2 _ _ d=>h1.elim fun _ q=>q.2 ▸ h2 ▸ wpAny_is_plain rfl d
theorem c_ob_none {i:Nat}:Cmp g .Is (.ob i) .none H false:=fun z _ h1 h2 _ _ d=>h1.elim fun _ q=>q.2 ▸ h2 ▸ wpAny_is_plain rfl d
structure Emb {α:Type} [BEq α] (f:α→AV) (d:α→PyData) (ok:α→Prop):Prop where
  same:∀ a b,PySem.Spec.same (d a) (d b)=(a == b)∧noMix (d a) (d b)=true
  lay:∀ a,ok a→PyData.canLay0 (d a)=true∧PyData.depth (d a)=0
  rd:∀ {x:Wd} {v:Value} {h:Heap} a,VR x (f a) v→Reads h v (d a) []
theorem embInt:Emb AV.int PyData.int (fun _=>True):=⟨fun a b=>⟨by rw [PySem.Spec.same],by rw [noMix]⟩,fun _ _=>⟨by rw [PyData.canLay0],by rw [PyData.depth]⟩,fun _ h=>h.elim fun _ q=>q.2 ▸ .int _ _⟩
theorem embStr:Emb AV.str PyData.str (fun x=>PyData.strOk x=true):=⟨fun a b=>⟨by rw [PySem.Spec.same],by rw [noMix]⟩,fun _ h=>⟨by rw [PyData.canLay0];exact h,by rw [PyData.depth]⟩,fun _ h=>h.elim fun _ q=>q ▸ .str _ _⟩
theorem embNone:Emb (fun _:Unit=>AV.none) (fun _=>PyData.none) (fun _=>True):=⟨fun a b=>⟨by rw [PySem.Spec.same];rfl,by rw [noMix]⟩,fun _ _=>⟨by rw [PyData.canLay0],by rw [PyData.depth]⟩,fun _ h=>h ▸ .none⟩
end
section
variable {c:Cx} {g:Gx} {x y:Wd} {H H1 H2 H3:AHeap} {s t:Shared} {A:Around} {l:Loc} {env:Env} {k:K} {e e1 e2:Expr} {v v1 v2:AV} {nm:Str} {pos:Pos} {Q:Post Value} {E:Post Value} {n:Nat} {hd:Bool} {b:Bool}
variable {α:Type} [BEq α] {f:α→AV} {d:α→PyData} {ok:α→Prop} (S:Emb f d ok)
include S
theorem Emb.all:∀ (xs ys:List α),PySem.Spec.sameAll (xs.map d) (ys.map d)=(xs == ys)∧noMixAll (xs.map d) (ys.map d)=true
  | [],[]=>⟨by rw [List.map_nil,PySem.Spec.sameAll];rfl,by rw [List.map_nil,noMixAll]⟩
  | [],_ :: _=>⟨by rw [List.map_nil,List.map_cons,PySem.Spec.sameAll] <;> first | rfl | nofun,by rw [List.map_nil,List.map_cons,noMixAll]⟩
  | _ :: _,[]=>⟨by rw [List.map_nil,List.map_cons,PySem.Spec.sameAll] <;> first | rfl | nofun,by rw [List.map_nil,List.map_cons,noMixAll]⟩
  | x :: xs,y :: ys=>by
    rw [List.map_cons,List.map_cons,PySem.Spec.sameAll,noMixAll,(S.same x y).1,(S.same x y).2,(Emb.all xs ys).1,(Emb.all xs ys).2]
    exact ⟨rfl,rfl⟩
theorem Emb.shape:∀ (xs:List α),(∀ a∈xs,ok a)→PyData.canLayAll0 (xs.map d)=true∧PyData.depthAll (xs.map d)≤1
  | [],_=>⟨by rw [List.map_nil,PyData.canLayAll0],by rw [List.map_nil,PyData.depthAll];exact Nat.zero_le _⟩
  | x :: xs,h=>by
    have i:=Emb.shape xs fun a m=>h a (.tail _ m)
    have q:=S.lay x (h x (.head _))
    rw [List.map_cons,PyData.canLayAll0,PyData.depthAll,q.1,q.2,i.1]
    exact ⟨rfl,Nat.max_le.mpr ⟨Nat.zero_le _,i.2⟩⟩
theorem Emb.shaped (xs:List α) (h:∀ a∈xs,ok a):SeqAt.shaped (.list (xs.map d))=true:=by
  show (PyData.canLay0 (.list (xs.map d)) && decide (PyData.depth (.list (xs.map d))≤64))=true
  rw [PyData.canLay0,(S.shape xs h).1,PyData.depth]
  exact decide_eq_true (Nat.le_trans (Nat.succ_le_succ (S.shape xs h).2) (by decide))
theorem Emb.reads {h:Heap}:∀ {xs:List α} {vs:List Value},VRs x (xs.map f) vs→ReadsAll h vs (xs.map d) []
  | [],_,r=>by cases r;exact .nil
  | a :: _,_,r=>by cases r with | cons p r=>exact .cons (as:=[]) (S.rd a p) (Emb.reads r)
theorem Emb.read {a:Addr} {xs:List α} {vs:List Value} {m:Nat} (e:s.heap.get? a=some (seqOb "list" vs m)) (r:VRs x (xs.map f) vs):Reads s.heap (.ref a) (.list (xs.map d)) [a]:=.list e rfl rfl (S.reads r)
end
section
variable {c:Cx} {g:Gx} {x y:Wd} {H H1 H2 H3:AHeap} {s t:Shared} {A:Around} {l:Loc} {env:Env} {k:K} {e e1 e2:Expr} {v v1 v2:AV} {nm:Str} {pos:Pos} {Q:Post Value} {E:Post Value} {n:Nat} {hd:Bool} {b:Bool}
theorem room2 {m:Nat} (h:m+200 < cLine):m+64 < cLine:=Nat.lt_trans (Nat.add_lt_add_left (by decide:64 < 200) _) h
end
section
variable {c:Cx} {g:Gx} {x y:Wd} {H H1 H2 H3:AHeap} {s t:Shared} {A:Around} {l:Loc} {env:Env} {k:K} {e e1 e2:Expr} {v v1 v2:AV} {nm:Str} {pos:Pos} {Q:Post Value} {E:Post Value} {n:Nat} {hd:Bool} {b:Bool}
variable {α:Type} [BEq α] {f:α→AV} {d:α→PyData} {ok:α→Prop} {i j:Nat} {xs ys:List α}
theorem c_eq_list (S:Emb f d ok) (h1:H[i]? = some (.list (xs.map f))) (h2:H[j]? = some (.list (ys.map f))) (a1:∀ a∈xs,ok a) (a2:∀ a∈ys,ok a):Cmp g .Eq (.ob i) (.ob j) H (xs == ys):=fun {x s A _ _} z hu r1 r2 Q E d =>
  z.list h1 r1 (P:=fun u=>wpAny _ _ (compareOp .Eq u _) _ _ _) fun _ vs _ _ g1 q1=>z.list h2 r2 (P:=fun u=>wpAny _ _ (compareOp .Eq _ u) _ _ _) fun _ us _ _ g2 q2 =>
    eq_dataH_same (S.read g1 q1) (S.read g2 q2) (S.shaped _ a1) (S.shaped _ a2) (room2 hu) (by rw [noMix];exact (S.all _ _).2) (by rw [PySem.Spec.same,(S.all _ _).1];exact d)
theorem c_ne_list (S:Emb f d ok) (h1:H[i]? = some (.list (xs.map f))) (h2:H[j]? = some (.list (ys.map f))) (a1:∀ a∈xs,ok a) (a2:∀ a∈ys,ok a):Cmp g .NotEq (.ob i) (.ob j) H (!(xs == ys)):=fun {x s A _ _} z hu r1 r2 Q E d =>
  z.list h1 r1 (P:=fun u=>wpAny _ _ (compareOp .NotEq u _) _ _ _) fun _ vs _ _ g1 q1=>z.list h2 r2 (P:=fun u=>wpAny _ _ (compareOp .NotEq _ u) _ _ _) fun _ us _ _ g2 q2 =>
    ne_dataH_same (S.read g1 q1) (S.read g2 q2) (S.shaped _ a1) (S.shaped _ a2) (room2 hu) (by rw [noMix];exact (S.all _ _).2) (by rw [PySem.Spec.same,(S.all _ _).1];exact d)
end
section
variable {c:Cx} {g:Gx} {x y:Wd} {H H1 H2 H3:AHeap} {s t:Shared} {A:Around} {l:Loc} {env:Env} {k:K} {e e1 e2:Expr} {v v1 v2:AV} {nm:Str} {pos:Pos} {Q:Post Value} {E:Post Value} {n:Nat} {hd:Bool} {b:Bool}
theorem sysM_of {a:Addr} (h:179≤a):(a == sysModules)=false:=beq_eq_false_iff_ne.mpr fun q=>absurd (q ▸ h) (by decide)
theorem c_eq_dict {i j:Nat} {k:Str} {a b:Int} (h1:H[i]? = some (.dict [(k,.int a)])) (h2:H[j]? = some (.dict [(k,.int b)])):Cmp g .Eq (.ob i) (.ob j) H (a == b):=fun {x s A _ _} z hu r1 r2 Q E d =>
  z.dict h1 r1 (P:=fun u=>wpAny _ _ (compareOp .Eq u _) _ _ _) fun p vs m1 d1 q1=>z.dict h2 r2 (P:=fun u=>wpAny _ _ (compareOp .Eq _ u) _ _ _) fun q us m2 d2 q2=>by
    cases q1 with
    | cons r1 t1 =>
      cases t1
      cases q2 with
      | cons r2 t2 =>
        cases t2
        refine intsP r1 r2 (P:=fun u v=>Heap.DictOf (strKind g.prog g.w) s.heap p [(k,u)]→Heap.DictOf (strKind g.prog g.w) s.heap q [(k,v)]→_) (fun t t' _ _ d1 d2=>?_) d1 d2
        have hit:KeqHits A.in1 s [(k,Value.int b t')] [(k,Value.int a t)] ((a == b) && true):=.hit (y:=.int b t') (by simp [valueAt]) ((MeetsSeq.EqGives.int a b t t').at _ _) .nil
        rw [Bool.and_true] at hit
        exact keq_eq (sysM_of (z.low p (List.mem_of_getElem? m1))) (sysM_of (z.low q (List.mem_of_getElem? m2))) d1 d2 (by omega) (fun _=>hit) (by simpa using d)
noncomputable abbrev Marks (ops:List CmpOp) (rs:List Expr):Prop:=∀ env,markedEach ops rs (evalEach rs env)=evalEach rs env
theorem ev_cmp {op:CmpOp} (hm:Marks [op] [e2]) (h1:Ev c l H e1 v1 H1) (h2:Ev c l H1 e2 v2 H2) (h3:Cmp c.g op v1 v2 H2 b):Ev c l H (.Compare e1 [op] [e2] pos) (.bool b) H2:=fun p _ _ d=>by
  rw [arm_eval_Compare,hm]
  exact wpAny_bind (h1 p fun s1 z1 r1=>wpAny_bind (wpAny_holding (h2 (p.step s1 z1) fun s2 z2 r2=>wpAny_bind (wpAny_standAt (wpAny_operating (h3 z2 p.a.room (r1.mono s2.le) r2 (d (s1.trW s2) z2 rfl)))))))
noncomputable def Ch (c:Cx) (l:Loc) (H:AHeap) (v:AV) (ops:List CmpOp) (rs:List Expr) (b:Bool) (H':AHeap):Prop:=
  ∀ {x s A env u},Ready c l H x s A env→VR x v u→∀ (pos:Pos) {Q E},Ok c.g BRel x s b H' Q→wpAny c.M A (testChain pos u ops (evalEach rs env)) Q E s
theorem ch_one {op:CmpOp} (h1:Ev c l H e v2 H1) (h3:Cmp c.g op v1 v2 H1 b):Ch c l H v1 [op] [e] b H1:=fun p r1 _ _ _ d =>
  wpAny_bind (m:=holding _ _) (wpAny_holding (h1 p fun s2 z2 r2=>wpAny_bind (wpAny_standAt (wpAny_bind (wpAny_operating (h3 z2 p.a.room (r1.mono s2.le) r2 (wpAny_holding (wpAny_truthy_bool (d s2 z2 rfl)))))))))
theorem ch_cons {op op':CmpOp} {ops:List CmpOp} {e':Expr} {rs:List Expr} (h1:Ev c l H e v2 H1) (h3:Cmp c.g op v1 v2 H1 true) (h:Ch c l H1 v2 (op' :: ops) (e' :: rs) b H2):Ch c l H v1 (op :: op' :: ops) (e :: e' :: rs) b H2:=fun p r1 pos _ _ d =>
  wpAny_bind (m:=holding _ _) (wpAny_holding (h1 p fun s2 z2 r2=>wpAny_bind (wpAny_standAt (wpAny_bind (wpAny_holding (h3 z2 p.a.room (r1.mono s2.le) r2 (wpAny_bind (wpAny_release (wpAny_bind (wpAny_holding (wpAny_truthy_bool (h (p.step s2 z2) r2 pos (d.mv s2)))))))))))))
theorem ch_stop {op op':CmpOp} {ops:List CmpOp} {e':Expr} {rs:List Expr} (h1:Ev c l H e v2 H1) (h3:Cmp c.g op v1 v2 H1 false):Ch c l H v1 (op :: op' :: ops) (e :: e' :: rs) false H1:=fun p r1 pos _ _ d =>
  wpAny_bind (m:=holding _ _) (wpAny_holding (h1 p fun s2 z2 r2=>wpAny_bind (wpAny_standAt (wpAny_bind (wpAny_holding (h3 z2 p.a.room (r1.mono s2.le) r2 (wpAny_bind (wpAny_release (wpAny_bind (wpAny_holding (wpAny_truthy_bool (wpAny_pure (d s2 z2 rfl)))))))))))))
theorem ts_cmp {ops:List CmpOp} {rs:List Expr} (hm:Marks ops rs) (h1:Ev c l H e v H1) (h2:Ch c l H1 v ops rs b H2):Ts c l H (.Compare e ops rs pos) b H2:=fun p _ _ d=>by
  rw [arm_isTrue_Compare,hm]
  exact wpAny_bind (h1 p fun s1 z1 r1=>h2 (p.step s1 z1) r1 pos (d.mv s1))
theorem ts_not (h:Ts c l H e b H1):Ts c l H (.UnaryOp .Not e pos) (!b) H1:=fun p _ _ d=>by
  rw [arm_isTrue_UnaryOp]
  exact wpAny_bind (h p fun s1 z1 r1=>wpAny_pure (d s1 z1 (congrArg _ r1)))
theorem ts_of (hi:∀ env,isTrue e env (eval e env)=(do let v ←eval e env;standAt e.pos;holding [v] (truthy v))) (h:Ev c l H e (.bool b) H1):Ts c l H e b H1:=fun p _ _ d=>by
  rw [hi]
  exact wpAny_bind (h p fun s1 z1 r1=>wpAny_bind (wpAny_standAt (wpAny_holding (r1 ▸ wpAny_truthy_bool (d s1 z1 rfl)))))
theorem ts_name {a:Pos} (h:Ev c l H (.Name nm a) (.bool b) H1):Ts c l H (.Name nm a) b H1:=ts_of (fun _=>rfl) h
theorem ts_call {es:List Expr} {ks:List Keyword} {a:Pos} (h:Ev c l H (.Call e es ks a) (.bool b) H1):Ts c l H (.Call e es ks a) b H1:=ts_of (fun _=>rfl) h
noncomputable def Al (c:Cx) (l:Loc) (H:AHeap) (op:BoolOp) (es:List Expr) (b:Bool) (H':AHeap):Prop:=
  ∀ {x s A env},Ready c l H x s A env→∀ {Q E},Ok c.g BRel x s b H' Q→wpAny c.M A (allTrue op es env) Q E s
theorem ts_row {op:BoolOp} {es:List Expr} (h:Al c l H op es b H1):Ts c l H (.BoolOp op es pos) b H1:=fun p _ _ d=>by
  rw [arm_isTrue_BoolOp]
  exact h p d
theorem al_nil {op:BoolOp}:Al c l H op [] (op == .And) H:=fun p _ _ d=>wpAny_pure (d.here p.z rfl)
theorem al_go {op:BoolOp} {es:List Expr} {q:Bool} (hq:q=(op == .And)) (h1:Ts c l H e q H1) (h2:Al c l H1 op es b H2):Al c l H op (e :: es) b H2:=fun p _ _ d=>by
  rw [arm_allTrue_cons]
  subst hq
  exact wpAny_bind (h1 p fun s1 z1 r1=>r1 ▸ (match op with | .And=>h2 (p.step s1 z1) (d.mv s1) | .Or=>h2 (p.step s1 z1) (d.mv s1)))
theorem al_stop {op:BoolOp} {es:List Expr} {q:Bool} (hq:q=(op == .Or)) (h1:Ts c l H e q H1):Al c l H op (e :: es) q H1:=fun p _ _ d=>by
  rw [arm_allTrue_cons]
  subst hq
  cases op
  · exact wpAny_bind (h1 p fun s1 z1 r1=>r1 ▸ wpAny_pure (d s1 z1 rfl))
  · exact wpAny_bind (h1 p fun s1 z1 r1=>r1 ▸ wpAny_pure (d s1 z1 rfl))
noncomputable def Bo (c:Cx) (l:Loc) (H:AHeap) (es:List Expr) (v:AV) (H':AHeap):Prop:=
  ∀ {x s A env},Ready c l H x s A env→∀ (pos:Pos) {Q E},Ok c.g VR x s v H' Q→wpAny c.M A (boolOp pos .And (evalEach es env)) Q E s
theorem ev_and {es:List Expr} (h:Bo c l H es v H1):Ev c l H (.BoolOp .And es pos) v H1:=fun p _ _ d=>h p pos d
theorem bo_one (h:Ev c l H e v H1):Bo c l H [e] v H1:=fun p _ _ _ d=>h p d
theorem bo_cons {r:List Expr} (h1:Ev c l H e (.bool true) H1) (h2:Bo c l H1 (e2 :: r) v H2):Bo c l H (e :: e2 :: r) v H2:=fun p pos _ _ d =>
  wpAny_bind (m:=eval e _) (h1 p fun s1 z1 r1=>wpAny_bind (wpAny_standAt (wpAny_bind (wpAny_holding (r1 ▸ wpAny_truthy_bool (h2 (p.step s1 z1) pos (d.mv s1)))))))
end
end Mine
namespace Mine
open PySem PySem.Calls PyProof.Rows PySem.W Builtin Builtin.ObjectAttr
theorem fn_none_name {n:Str} (h:attrNames.contains n=true):typeLookup (.type "function") n=pure none:=by
  simp only [attrNames,List.contains_cons,List.contains_nil,Bool.or_false,Bool.or_eq_true,beq_iff_eq] at h
  rcases h with rfl | rfl | rfl | rfl | rfl <;> (rw [typeLookup_type,builtinLookup_eq_fast];kernel_rfl)
theorem fn_none_getattr:typeLookup (.type "function") "__getattr__" = pure none:=by rw [typeLookup_type,builtinLookup_eq_fast];kernel_rfl
theorem slot_fn_ga:Slot "function" "__getattribute__" "object.__getattribute__":=
  .of (owner:="object") (n:="__getattribute__") (by rw [typeLookup_type,builtinLookup_eq_fast];kernel_rfl) (by decide +kernel) (by decide +kernel) (by decide +kernel)
    (by first | exact .inl (by decide +kernel) | exact .inr (by decide +kernel)) (by rw [isSubtype_type];kernel_rfl)
theorem slot_fn_sa:Slot "function" "__setattr__" "object.__setattr__":=
  .of (owner:="object") (n:="__setattr__") (by rw [typeLookup_type,builtinLookup_eq_fast];kernel_rfl) (by decide +kernel) (by decide +kernel) (by decide +kernel)
    (by first | exact .inl (by decide +kernel) | exact .inr (by decide +kernel)) (by rw [isSubtype_type];kernel_rfl)
theorem entry_oga:entryFor table "object.__getattribute__" = some Builtin.«object.__getattribute__»:=entryFor_of_tree (by kernel_rfl)
theorem entry_osa:entryFor table "object.__setattr__" = some Builtin.«object.__setattr__»:=entryFor_of_tree (by kernel_rfl)
theorem args_oga (a b:Value):argsOk "object.__getattribute__" ⟨[a,b],[]⟩:=by unfold argsOk;kernel_rfl
theorem args_osa (a b c:Value):argsOk "object.__setattr__" ⟨[a,b,c],[]⟩:=by unfold argsOk;kernel_rfl
theorem meets_fn_ga (a d:Addr) (fd:FuncData) (sl:Array (Option Value)) (name:Str) (u:Tok) (m:Str→Option Value) (v:Value) (hn:attrNames.contains name=true) (hm:m name=some v) :
    Meets (Builtin.«object.__getattribute__» ⟨[.ref a,.str name u],[]⟩) (fun _ R s=>s.heap.get? a=some { cls:=.type "function",dict:=some d,data:=.func fd,slots:=sl }∧s.heap.Ns d m∧R (.ok (.ret v)) s):=
  Meets.of_wp fun prog w A R s hs=>by
    obtain ⟨hp,g,dr,tk,os⟩:=s
    obtain ⟨hx,hns,hs⟩:=hs
    have hT:(⟨hp,g,dr,tk,os⟩:Shared).TypeIs (.ref a) "function":=⟨_,hx,rfl⟩
    have f1:=fn_none_name hn
    unfold Builtin.«object.__getattribute__»
    wp_walk using (PySem.wpAny_nsGet hns)
    rw [hm]
    wp_walk
    exact ⟨_,rfl,hs⟩
theorem getAttr_fn {prog:Program} {w:World} {A:Around} {E:Value→Shared→Prop} {s:Shared} {a d:Addr} {fd:FuncData} {sl:Array (Option Value)} {name:Str} {m:Str→Option Value} {v:Value} {Q:Value→Shared→Prop}
    (hx:s.heap.get? a=some { cls:=.type "function",dict:=some d,data:=.func fd,slots:=sl }) (hns:s.heap.Ns d m) (hn:attrNames.contains name=true) (hm:m name=some v) (hb:∀ id,v ≠ .builtin id)
    (h:∀ tk,Q v { s with toks:=tk }) (ex:Bool):PySem.wpAny (model prog w) A (getAttr (.ref a) name ex) Q E s:=by
  obtain ⟨hp,g,dr,tk,os⟩:=s
  have hT:∀ tk',(⟨hp,g,dr,tk',os⟩:Shared).TypeIs (.ref a) "function":=fun _=>⟨_,hx,rfl⟩
  have f3:=slot_fn_ga.lookup
  have f4:=slot_fn_ga.bind (.ref a)
  have f5:=fn_none_getattr
  unfold getAttr getAttrBy
  cases ex <;>
  (repeat (any_goals (first | assumption | exact hT _ | ((with_reducible show PySem.wpAny _ _ (call (Value.builtin "object.__getattribute__") _ _) _ _ _);refine PySem.call_meets slot_fn_ga (hT _) entry_oga (args_oga _ _) (meets_fn_ga a d fd sl name _ m v hn hm) ⟨hx,hns,?_⟩) | wp_step)))
  all_goals
    show PySem.wpAny _ _ (handedOut v) _ _ _
    have:handedOut v=pure v:=by cases v <;> first | rfl | exact absurd rfl (hb _)
    rw [this]
    exact PySem.wpAny_pure (h _)
theorem fn_mro:mroOf (.type "function")=pure [.type "function",.type "object"]:=by kernel_rfl
theorem fn_passes (self:Value):refuseLoop self "__setattr__" [.type "function",.type "object"]=pure ():=by kernel_rfl
theorem within_set {m:Str→Option Value} {n:Str} {v:Value} (h:Within m attrNames) (hn:attrNames.contains n=true):Within (fun y=>if y=n then some v else m y) attrNames:=fun y hy=>by
  by_cases e:y=n
  · rw [e];exact List.contains_iff_mem.mp hn
  · simp only [e,if_false] at hy;exact h y hy
theorem within_one {n:Str} {v:Value} (hn:attrNames.contains n=true):Within (fun y=>if y=n then some v else none) attrNames:=within_set (m:=fun _=>none) (fun _ h=>absurd rfl h) hn
section
variable {prog:Program} {w:World} {A:Around} {s:Shared} {a d:Addr} {fd:FuncData} {sl:Array (Option Value)} {name:Str} {u:Tok} {m:Str→Option Value} {v:Value} {R:Result→Shared→Prop}
theorem fn_store_old (hx:s.heap.get? a=some { cls:=.type "function",dict:=some d,data:=.func fd,slots:=sl }) (hns:s.heap.Ns1 d m) (hw:Within m attrNames) (hn:attrNames.contains name=true) {Q:Fin→Shared→Prop} {E:Value→Shared→Prop}
    (h:∀ h' tk,h'.Ns1 d (fun x=>if x=name then some v else m x)→Heap.SameBut d s.heap h'→Q (.done (.ret .none)) { s with heap:=h',toks:=tk }) :
    PySem.wpAny (model prog w) A (Builtin.«object.__setattr__» ⟨[.ref a,.str name u,v],[]⟩) Q E s:=by
  have hT:s.TypeIs (.ref a) "function":=⟨_,hx,rfl⟩
  rw [osa_eq,refuse_eq]
  refine PySem.wpAny_bind (PySem.wpAny_bind (PySem.wpAny_typeOf hT (PySem.wpAny_bind (PySem.wpAny_of_eq fn_mro ?_))))
  rw [fn_passes]
  refine PySem.wpAny_pure (PySem.wpAny_bind (PySem.wpAny_typeOf hT (PySem.wpAny_bind (PySem.wpAny_of_eq (fn_none_name hn) ?_))))
  refine PySem.wpAny_bind (PySem.wpAny_pure ?_)
  show PySem.wpAny _ _ (storeInOwnDict (.ref a) (.type "function") (.str name u) name v _) _ _ _
  unfold storeInOwnDict
  refine PySem.wpAny_bind (PySem.wpAny_of_eq (a:=()) (by kernel_rfl) ?_)
  rw [if_neg (by decide)]
  refine PySem.wpAny_bind (m:=ownDictForStores (.ref a)) ?_
  show PySem.wpAny _ _ (instanceDict a true) _ _ _
  unfold instanceDict
  refine PySem.wpAny_bind (PySem.wpAny_loadPart hx (PySem.wpAny_pure ?_))
  show PySem.wpAny _ _ (storeInDict d (.str name u) name v) _ _ _
  unfold storeInDict newKeyGuard
  refine PySem.wpAny_bind (PySem.wpAny_pure (PySem.wpAny_bind (PySem.wpAny_nsSet1 hns fun h' hn' hs=>?_)))
  obtain ⟨oD,esD,epD,hoD,hdD,hcD⟩:=hn'.count (within_set (v:=v) hw hn)
  unfold lookBehind
  refine PySem.wpAny_bind (PySem.wpAny_bind (PySem.wpAny_loadPart hoD ?_))
  rw [hdD,show (Data.dict esD epD).pastItsLine=none from pastItsLine_dict (Nat.le_trans hcD (by rw [sizeLine_eq];decide))]
  exact PySem.wpAny_pure (PySem.wpAny_pure (h _ _ hn' hs))
theorem fn_hasDict:typeHasDict (.type "function")=true:=by decide +kernel
theorem fn_dictMade (a d:Addr):dictMade (.type "function") a d=pure (some d):=by kernel_rfl
theorem fn_store_new (hx:s.heap.get? a=some { cls:=.type "function",dict:=none,data:=.func fd,slots:=sl }) (hn:attrNames.contains name=true) {Q:Fin→Shared→Prop} {E:Value→Shared→Prop}
    (h : ∀ h' tk,h'.Ns1 s.heap.objs.size (fun x=>if x=name then some v else none)→h'.get? a=some { cls:=.type "function",dict:=some s.heap.objs.size,data:=.func fd,slots:=sl } →
      (∀ b o,b≠a→s.heap.get? b=some o→h'.get? b=some o)→s.heap.objs.size < h'.objs.size→Q (.done (.ret .none)) { s with heap:=h',toks:=tk }) :
    PySem.wpAny (model prog w) A (Builtin.«object.__setattr__» ⟨[.ref a,.str name u,v],[]⟩) Q E s:=by
  have hT:s.TypeIs (.ref a) "function":=⟨_,hx,rfl⟩
  rw [osa_eq,refuse_eq]
  refine PySem.wpAny_bind (PySem.wpAny_bind (PySem.wpAny_typeOf hT (PySem.wpAny_bind (PySem.wpAny_of_eq fn_mro ?_))))
  rw [fn_passes]
  refine PySem.wpAny_pure (PySem.wpAny_bind (PySem.wpAny_typeOf hT (PySem.wpAny_bind (PySem.wpAny_of_eq (fn_none_name hn) ?_))))
  refine PySem.wpAny_bind (PySem.wpAny_pure ?_)
  show PySem.wpAny _ _ (storeInOwnDict (.ref a) (.type "function") (.str name u) name v _) _ _ _
  unfold storeInOwnDict
  refine PySem.wpAny_bind (PySem.wpAny_of_eq (a:=()) (by kernel_rfl) ?_)
  rw [if_neg (by decide)]
  refine PySem.wpAny_bind (m:=ownDictForStores (.ref a)) ?_
  show PySem.wpAny _ _ (instanceDict a true) _ _ _
  unfold instanceDict
  refine PySem.wpAny_bind (PySem.wpAny_loadPart hx ?_)
  show PySem.wpAny _ _ (if (!true || !typeHasDict (.type "function"))=true then _ else _) _ _ _
  rw [fn_hasDict]
  rw [if_neg (by decide)]
  have hx₁:(s.heap.push { cls:=.type "dict",data:=.dict #[] }).get? a=some { cls:=.type "function",dict:=none,data:=.func fd,slots:=sl }:=Heap.get?_push_of_some _ hx
  have hxs:a≠s.heap.objs.size:=Nat.ne_of_lt (Heap.lt_size hx)
  refine PySem.wpAny_bind (PySem.wpAny_alloc ?_)
  refine PySem.wpAny_bind (PySem.wpAny_update hx₁ ?_)
  rw [fn_dictMade]
  refine PySem.wpAny_pure ?_
  have hgd:((s.heap.push { cls:=.type "dict",data:=.dict #[] }).update a fun o=>{ cls:=o.cls,dict:=some s.heap.objs.size,data:=o.data,slots:=o.slots }).get? s.heap.objs.size
      = some { cls:=.type "dict",data:=.dict #[] }:=
    (Heap.get?_update_ne _ _ _ _ hxs.symm).trans (Heap.get?_push_size _ rfl)
  have hnd:((s.heap.push { cls:=.type "dict",data:=.dict #[] }).update a fun o=>{ cls:=o.cls,dict:=some s.heap.objs.size,data:=o.data,slots:=o.slots }).Ns s.heap.objs.size (fun _=>none):=
    ⟨_,#[],_,hgd,rfl,fun e he=>absurd he (by simp),fun _=>rfl⟩
  show PySem.wpAny _ _ (storeInDict s.heap.objs.size (.str name u) name v) _ _ _
  unfold storeInDict newKeyGuard
  refine PySem.wpAny_bind (PySem.wpAny_pure (PySem.wpAny_bind (PySem.wpAny_nsSet1 (Heap.Ns1.of_empty hnd) fun h' hn' hs=>?_)))
  obtain ⟨oD,esD,epD,hoD,hdD,hcD⟩:=hn'.count (within_one (v:=v) hn)
  unfold lookBehind
  refine PySem.wpAny_bind (PySem.wpAny_bind (PySem.wpAny_loadPart hoD ?_))
  rw [hdD,show (Data.dict esD epD).pastItsLine=none from pastItsLine_dict (Nat.le_trans hcD (by rw [sizeLine_eq];decide))]
  refine PySem.wpAny_pure (PySem.wpAny_pure (h _ _ hn' ?_ (fun b o hb e=>?_) ?_))
  · exact (hs.2 a hxs).trans (Heap.get?_update_self _ hx₁ rfl)
  · exact (hs.2 b (Nat.ne_of_lt (Heap.lt_size e))).trans ((Heap.get?_update_ne _ _ _ _ hb).trans (Heap.get?_push_of_some _ e))
  · rw [hs.1];simp
theorem setAttr_fn {E:Value→Shared→Prop} {Q:Unit→Shared→Prop} {o:Obj} (hx:s.heap.get? a=some o) (hc:o.cls = .type "function")
    (h:∀ tk (Q':Fin→Shared→Prop) (E':Value→Shared→Prop),(∀ s',Q () s'→Q' (.done (.ret .none)) s')→PySem.wpAny (model prog w) A.in1 (Builtin.«object.__setattr__» ⟨[.ref a,.str name tk,v],[]⟩) Q' E' { s with toks:=s.toks+1 }) :
    PySem.wpAny (model prog w) A (setAttr (.ref a) name v) Q E s:=by
  have hT:∀ tk,({ s with toks:=tk }:Shared).TypeIs (.ref a) "function":=fun _=>⟨_,hx,hc⟩
  unfold setAttr
  refine PySem.wpAny_bind (PySem.wpAny_mkText (PySem.wpAny_bind (PySem.wpAny_callSpecial?_slot (name:=Str.ofString "__setattr__") (hT _) slot_fn_sa (PySem.wpAny_call_entry slot_fn_sa (hT _) entry_osa ?_ (args_osa _ _ _)))))
  exact h _ _ _ fun s' hq=>⟨_,rfl,PySem.wpAny_pure hq⟩
end
section
variable {c:Cx} {g:Gx} {x y:Wd} {H H1 H2 H3:AHeap} {s t:Shared} {A:Around} {l:Loc} {env:Env} {e e1 e2:Expr} {v v1 v2:AV} {nm:Str} {pos:Pos} {Q:Post Value} {E:Post Value}
theorem Rl.both (z:Rl g x H s) {h':Heap} {tk i:Nat} {a:Addr} {o o2:AObj} (ea:x.ρ[i]? = some a) (k:∀ b o,b≠a→s.heap.get? b=some o→h'.get? b=some o) (ex:∃ ob,h'.get? a=some ob)
    (r2:∀ h'',(∀ b o,b≠a→h'.get? b=some o→h''.get? b=some o)→OR g (x.add s.heap.objs.size) h'' s.heap.objs.size o2) (r:OR g (x.add s.heap.objs.size) h' a o) (hv:¬ ExcAt s.heap a) (ht:s.toks≤tk) :
    Rl g (x.add s.heap.objs.size) (H.set i o++[o2]) { s with heap:=h',toks:=tk }∧Step [] x s (x.add s.heap.objs.size) { s with heap:=h',toks:=tk }:=
  ex.elim fun ob eo=>(z.ofRho (List.mem_of_getElem? ea)).elim fun ob0 q0 =>
    have g1:(h'.update a fun _=>ob0).get? a=some ob0:=Heap.get?_update_self (fun _=>ob0) eo (Heap.get?_some_iff.mp q0.1).2
    have g2:∀ b,b≠a→(h'.update a fun _=>ob0).get? b=h'.get? b:=fun b hb=>Heap.get?_update_other _ _ (Ne.symm hb)
    have z1:=z.add (tk:=tk) (a:=s.heap.objs.size) (o:=o2) (fun b o e=>if hb:b=a then (by subst hb;exact g1.trans (q0.1.symm.trans e)) else (g2 b hb).trans (k b o hb e)) (Heap.get?_none_of_le (Nat.le_refl _)) (r2 _ fun b o hb e=>(g2 b hb).trans e)
    have z2:=z1.1.put (h':=h') (tk:=tk) (o:=o) (prefix_get (x.le_add _).1 ea) (fun b o hb e=>(g2 b hb).symm.trans e) r
      (fun q=>hv (q.imp fun o' q=>q.imp fun vs q=>⟨q0.1.trans (g1.symm.trans q.1),q.2⟩)) (Nat.le_refl _)
    ⟨List.set_append_left i o (by rw [←z.len];exact (List.getElem?_eq_some_iff.mp ea).1) ▸ z2.1,z1.2.trW z2.2⟩
noncomputable def putD (k:Str) (v:AV):List (Str × AV)→List (Str × AV)
  | []=>[(k,v)]
  | (l,u) :: r=>if k=l then (l,v) :: r else (l,u) :: putD k v r
theorem putD_lookup {k n:Str} {v:AV}:∀ {es:List (Str × AV)},(putD k v es).lookup n=if n=k then some v else es.lookup n
  | []=>look_cons
  | (l, u) :: r=>by
    show List.lookup n (if k=l then (l,v) :: r else (l,u) :: putD k v r)=_
    by_cases hk:k=l
    · rw [if_pos hk,look_cons,look_cons,hk]
      by_cases h:n=l
      · rw [if_pos h,if_pos h]
      · rw [if_neg h,if_neg h,if_neg h]
    · rw [if_neg hk,look_cons,look_cons,putD_lookup]
      by_cases h:n=l
      · rw [if_pos h,if_neg fun q=>hk (q.symm.trans h),if_pos h]
      · rw [if_neg h,if_neg h]
theorem NsV.put {es:List (Str × AV)} {m:Str→Option Value} {u:Value} (n:NsV x es m) (hu:VR x v u):NsV x (putD nm v es) (fun y=>if y=nm then some u else m y):=fun k av e=>by
  rw [putD_lookup] at e
  dsimp only
  by_cases hk:k=nm
  · rw [if_pos hk] at e ⊢;exact ⟨u,rfl,Option.some.inj e ▸ hu⟩
  · rw [if_neg hk] at e ⊢;exact n k av e
theorem vr_bi {id:String} (h:VR x v (.builtin id)):v = .bi id:=by
  cases v with
  | bi _=>exact congrArg AV.bi (Value.builtin.inj h).symm
  | int _=>exact h.elim fun _ q=>nomatch q.2
  | str _=>exact h.elim fun _ q=>nomatch q
  | bytes _=>exact h.elim fun _ q=>q.elim fun _ q=>nomatch q.1
  | ob _=>exact h.elim fun _ q=>nomatch q.2
  | top _=>exact nomatch h.1
  | _ => exact nomatch h
noncomputable def notBi:AV→Bool
  | .bi _=>false
  | _ => true
inductive AttrQ (H:AHeap) (i:Nat) (nm:Str) (v:AV):Prop
  | mk {q p b sc cl d es}:H[i]? = some (.fn q p b sc cl (some d))→H[d]? = some (.nsd es)→attrNames.contains nm=true→es.lookup nm=some v→notBi v=true→AttrQ H i nm v
theorem attr_wp (z:Rl g x H s) {i:Nat} (h:AttrQ H i nm v) {u:Value} (r:VR x (.ob i) u) (ex:Bool) (d:Ok g VR x s v H Q):wpAny g.M A (getAttr u nm ex) Q E s:=
  h.rec fun h1 h2 h3 h4 h5=>r.elim fun a r=>(z.obj i _ a h1 r.1).rec fun g1 _ _ dv=>dv.elim fun b dv=>(z.obj _ _ b h2 dv.1).elim fun m n=>(n.2.1 nm v h4).elim fun w hw =>
    r.2 ▸ wpAny_with_toks (Nat.le_refl _) (up (getAttr_fn (dv.2 ▸ g1) n.1.ns h3 hw.1 (fun id q=>nomatch (vr_bi (q ▸ hw.2)) ▸ h5) (fun tk hle=>d (z.toks tk hle).2 (z.toks tk hle).1 hw.2) ex))
noncomputable abbrev Base (o:Expr):Prop:=∀ nm env t,attributeBase o nm env t=t
theorem ev_attr {i:Nat} (hb:Base e) (h1:Ev c l H e (.ob i) H1) (h:AttrQ H1 i nm v):Ev c l H (.Attribute e nm pos) v H1:=fun p _ _ d=>by
  rw [arm_eval_Attribute,hb]
  exact wpAny_bind (h1 p fun s1 z1 r1=>wpAny_bind (wpAny_standAt (wpAny_bind (wpAny_holding (attr_wp z1 h r1 true fun s2 z2 r2=>wpAny_bind (wpAny_letTemporaryGo (wpAny_pure (d (s1.trW s2) z2 r2))))))))
theorem setattr_new (z:Rl g x H s) {i:Nat} {q:Str} {p:Arguments} {bd:Expr} {sc:Scope} {cl:List (Str × Nat)} (h:H[i]? = some (.fn q p bd sc cl none)) (hn:attrNames.contains nm=true) {u w:Value} (r:VR x (.ob i) u) (hw:VR x v w) {Q:Post Unit}
    (d:∀ {y t},Step [] x s y t→Rl g y (H.set i (.fn q p bd sc cl (some H.length))++[.nsd [(nm,v)]]) t→Q () t):wpAny g.M A (setAttr u nm w) Q E s:=
  r.elim fun a r=>(z.obj i _ a h r.1).rec fun {cl' pm cc P ctv dd} g1 r1 r2 dv=>by
    obtain rfl:dd=none:=dv
    rw [r.2]
    refine up (setAttr_fn g1 rfl fun tk Q' E' hq=>PySem.wpAny_with_toks (n:=s.toks) (Nat.le_succ _) (fn_store_new (s:={ s with toks:=s.toks+1 }) g1 hn fun h' tk' hn' g2 k hs hle=>hq _ ?_))
    have zz:=z.both (h':=h') (tk:=tk') (o:=.fn q p bd sc cl (some H.length)) (o2:=.nsd [(nm,v)]) r.1 k ⟨_,g2⟩
      (fun h'' kk=>⟨_,hn'.at fun o e=>kk _ o (Nat.ne_of_gt (Heap.lt_size g1)) e,NsV.put (es:=[]) (fun _ _ e=>nomatch e) (hw.mono (x.le_add _)),within_one hn⟩)
      (.mk g2 (r1.mono (x.le_add _).1) (r2.at (fun _ m=>m) fun b o e hc _=>k b o (fun q=>absurd (Value.type.inj ((congrArg Obj.cls (Option.some.inj ((q ▸ g1).symm.trans e))).trans hc)) (by decide)) e) ⟨_,z.get _,rfl⟩)
      (notExc g1 (ne_code (by decide))) hle
    exact d zz.2 zz.1
theorem setattr_old (z:Rl g x H s) {i dI:Nat} {q:Str} {p:Arguments} {bd:Expr} {sc:Scope} {cl:List (Str × Nat)} {es:List (Str × AV)} (h:H[i]? = some (.fn q p bd sc cl (some dI))) (h2:H[dI]? = some (.nsd es)) (hn:attrNames.contains nm=true) {u w:Value} (r:VR x (.ob i) u) (hw:VR x v w) {Q:Post Unit}
    (d:∀ {y t},Step [] x s y t→Rl g y (H.set dI (.nsd (putD nm v es))) t→Q () t):wpAny g.M A (setAttr u nm w) Q E s:=
  r.elim fun a r=>(z.obj i _ a h r.1).rec fun g1 r1 r2 dv=>dv.elim fun b dv=>by
    obtain rfl:=dv.2
    rw [r.2]
    exact (z.obj _ _ b h2 dv.1).elim fun m n=>up (setAttr_fn g1 rfl fun tk Q' E' hq=>PySem.wpAny_with_toks (n:=s.toks) (Nat.le_succ _) (fn_store_old (s:={ s with toks:=s.toks+1 }) g1 n.1 n.2.2 hn fun h' tk' hn' hs hle=>hq _
      (have zz:=z.put (h':=h') (tk:=tk') (o:=.nsd (putD nm v es)) dv.1 (fun c o hc e=>(hs.2 c hc).trans e) ⟨_,hn',n.2.1.put hw,within_set n.2.2 hn⟩ ((Ns.dict n.1.ns).elim fun _ q=>notExcD q.1 q.2) hle
       d zz.2 zz.1)))
end
end Mine
namespace MineL
open PySem PySem.Calls PyProof.Rows PySem.W Builtin.Bytes
theorem ba_slot_setitem:Slot "bytearray" "__setitem__" "bytearray.__setitem__":=
  .of (owner:="bytearray") (n:="__setitem__") (by rw [typeLookup_type,builtinLookup_eq_fast];kernel_rfl) (by decide +kernel) (by decide +kernel) (by decide +kernel)
    (by first | exact .inl (by decide +kernel) | exact .inr (by decide +kernel)) (by rw [isSubtype_type];kernel_rfl)
theorem ba_entry_setitem:entryFor table "bytearray.__setitem__" = some Builtin.«bytearray.__setitem__»:=by first | exact entryFor_of_fast (by kernel_rfl) | exact entryFor_of_tree (by kernel_rfl)
theorem ba_args_setitem (a b c:Value):argsOk "bytearray.__setitem__" ⟨[a,b,c],[]⟩:=by unfold argsOk;kernel_rfl
section
variable {prog:Program} {w:World} {s:Shared} {A:Around} {E:Value→Shared→Prop}
theorem if_neg0 {α:Type} {M:Model} {c:Prop} [Decidable c] {a b:Sem α} {Q:α→Shared→Prop} (hc:¬ c) (h:wpAny M A b Q E s):wpAny M A (if c then a else b) Q E s:=by rw [if_neg hc];exact h
theorem ba_setAt {l:Addr} {b:Array UInt8} {k u:Int} {t t':Tok} {Q:Unit→Shared→Prop} (ho:s.heap.get? l=some { cls:=.type "bytearray",data:=.bytearray b }) (h0:0≤k) (hk:k.toNat < b.size) (hz:b.size≤1000) (hu0:0≤u) (hu1:u < 256)
    (hQ:Q () { s with heap:=s.heap.update l (Obj.mapBytearray (·.setIfInBounds k.toNat u.toNat.toUInt8)) }):wpAny (model prog w) A (setItem (.ref l) (.int k t) (.int u t')) Q E s:=by
  have hT:s.TypeIs (.ref l) "bytearray":=⟨_,ho,rfl⟩
  unfold setItem
  try with_reducible refine wpAny_holding ?_
  first | refine wpAny_bind (wpAny_pure ?_) | skip
  refine wpAny_bind (wpAny_sequenceKey hT (by decide) ?_)
  refine wpAny_bind (wpAny_callSpecial?_slot (name:=Str.ofString "__setitem__") hT ba_slot_setitem
    (wpAny_call_entry ba_slot_setitem hT ba_entry_setitem ?_ (ba_args_setitem _ _ _)))
  unfold Builtin.«bytearray.__setitem__»
  dsimp only
  refine if_neg0 (by decide) ?_
  refine wpAny_bind ?_
  unfold subscript?
  refine wpAny_bind (wpAny_specialOf (typeIs_int _ k t) F.slot_int_index.lookup ?_)
  refine if_neg0 (by simp) ?_
  refine wpAny_bind (wpAny_of_eq (rfl:asIndex (.int k t)=pure k) ?_)
  refine if_neg0 (by simp [fitsIndex];omega) ?_
  refine wpAny_pure ?_
  dsimp only
  refine wpAny_bind ?_
  unfold byteValue
  refine wpAny_bind (wpAny_of_eq (rfl:asIndex (.int u t')=pure u) ?_)
  refine if_neg0 (by simp;omega) ?_
  refine wpAny_pure ?_
  unfold payload payload?
  refine wpAny_bind (wpAny_bind (wpAny_bind (wpAny_load ho (wpAny_pure ?_))))
  dsimp only
  refine wpAny_pure ?_
  have hs:seqIndex? k b.size=some k.toNat:=by
    unfold seqIndex?
    rw [if_neg (by omega:¬ k < 0)]
    rw [if_pos (by simp;omega)]
  rw [hs]
  dsimp only
  refine wpAny_bind ?_
  show wpAny _ _ (updateBytearray l _) _ _ _
  unfold updateBytearray
  refine wpAny_bind (wpAny_load ho ?_)
  show wpAny _ _ (update l (Obj.mapBytearray (·.setIfInBounds k.toNat u.toNat.toUInt8)) >>= fun _=>lookBehind l) _ _ _
  refine wpAny_bind (wpAny_update ho ?_)
  have h2:(s.heap.update l (Obj.mapBytearray (·.setIfInBounds k.toNat u.toNat.toUInt8))).get? l=some { cls:=.type "bytearray",data:=.bytearray (b.setIfInBounds k.toNat u.toNat.toUInt8) }:=Heap.get?_update_self (Obj.mapBytearray (·.setIfInBounds k.toNat u.toNat.toUInt8)) ho rfl
  refine wpAny_lookBehind h2 ?_ ?_
  · show (if (b.setIfInBounds k.toNat u.toNat.toUInt8).size > sizeLine then some "bytearray:memory" else none)=none
    rw [if_neg (by rw [Array.size_setIfInBounds,sizeLine_eq];omega)]
  · first
      | exact wpAny_bind (wpAny_pure (wpAny_pure ⟨.none,rfl,wpAny_pure hQ⟩))
      | exact wpAny_pure ⟨.none,rfl,wpAny_pure hQ⟩
end
end MineL
namespace Mine
open PySem PySem.Calls PyProof.Rows PySem.W
section
variable {c:Cx} {g:Gx} {x y:Wd} {H H1 H2 H3:AHeap} {s t:Shared} {A:Around} {l:Loc} {env:Env} {e e1 e2:Expr} {v v1 v2:AV} {nm:Str} {pos:Pos} {Q:Post Value} {E:Post Value}
theorem Rl.push (z:Rl g x H s) (ob:Obj) (tk:Nat) (ht:s.toks≤tk:=by first | assumption | exact Nat.le_refl _ | exact Nat.le_succ _):Rl g x H { s with heap:=s.heap.push ob,toks:=tk }∧Step [] x s x { s with heap:=s.heap.push ob,toks:=tk }:=
  z.stay (fun _ _ e=>Heap.get?_push_of_some _ e) ht
noncomputable def Idx (g:Gx) (H:AHeap) (a b v:AV):Prop:=
  ∀ {x s A va vb value slice},(∀ o i,subscripted slice false o i=operate [o,i] (getItem o i))→Rl g x H s→VR x a va→VR x b vb→∀ {Q E},Ok g VR x s v H Q→wpAny g.M A (subscriptTail value slice va vb) Q E s
noncomputable abbrev NoSlice (i:Expr):Prop:=∀ a b,subscripted i false a b=operate [a,b] (getItem a b)
theorem ev_idx (hs:NoSlice e2) (h1:Ev c l H e1 v1 H1) (h2:Ev c l H1 e2 v2 H2) (h3:Idx c.g H2 v1 v2 v):Ev c l H (.Subscript e1 e2 pos) v H2:=fun p _ _ d=>by
  rw [arm_eval_Subscript]
  exact wpAny_bind (h1 p fun s1 z1 r1=>wpAny_bind (wpAny_holding (h2 (p.step s1 z1) fun s2 z2 r2=>wpAny_bind (wpAny_standAt (h3 hs z2 (r1.mono s2.le) r2 (d.mv (s1.trW s2)))))))
theorem i_list {i:Nat} {k:Int} {xs:List AV} (h:H[i]? = some (.list xs)) (h0:0≤k) (hk:k < 2 ^ 63) (e:xs[k.toNat]? = some v):Idx g H (.ob i) (.int k) v:=fun hs z r1 r2 _ _ d =>
  z.list h r1 (P:=fun u=>wpAny _ _ (subscriptTail _ _ u _) _ _ _) fun _ vs _ _ g1 q1=>r2.elim fun t q=>q.2 ▸ (q1.get e).elim fun w hw =>
    tail_any (isList g1).typeIs slot_list_getitem.lookup (wpAny_getItem_list (isList g1) h0 hk (List.getElem?_toArray.trans hw.1) (d.here z hw.2)) (hs _ _)
theorem lookup_valueAt (k:Str):∀ (es:List (Str × Value)),valueAt es k=es.lookup k
  | []=>rfl
  | (l,v) :: r=>by
    have ih:=lookup_valueAt k r
    unfold valueAt at ih ⊢
    rw [List.find?_cons,look_cons,←ih]
    by_cases h:k=l
    · rw [if_pos h,decide_eq_true h.symm];rfl
    · rw [if_neg h,decide_eq_false (Ne.symm h)]
theorem i_dict {i:Nat} {k:Str} {es:List (Str × AV)} (h:H[i]? = some (.dict es)) (e:es.lookup k=some v):Idx g H (.ob i) (.str k) v:=fun hs z r1 r2 _ _ d =>
  z.dict h r1 (P:=fun u=>wpAny _ _ (subscriptTail _ _ u _) _ _ _) fun _ vs _ d1 n1=>r2.elim fun t q=>q ▸ (n1.look e).elim fun w hw =>
    tail_any (d1.typeIs) slot_dict_getitem.lookup (wpAny_getItem_of (strKind_is _ _ k t) d1.mapOf ((lookup_valueAt k vs).trans hw.1) (d (z.toks _).2 (z.toks _).1 hw.2)) (hs _ _)
theorem i_bytes {k:Int} {xs:List Int} {j:Int} (h0:0≤k) (hl:xs.length < 1000) (e:xs[k.toNat]? = some j):Idx g H (.bytes xs) (.int k) (.int j):=fun hs z r1 r2 _ _ d =>
  r1.elim fun arr r1=>r1.elim fun t r1=>r2.elim fun t' r2=>by
    rw [r1.1,r2.2]
    obtain ⟨l⟩:=arr
    have hk:k.toNat < xs.length:=(List.getElem?_eq_some_iff.mp e).1
    have hll:l.length=xs.length:=(List.length_map _).symm.trans (congrArg List.length r1.2)
    refine tail_any (typeIs_bytes _ _ t) FB.slot_bytes_getitem.lookup (getItem_bytes (i:=k) (by omega) h0 (by omega) ?_) (hs _ _)
    have:((l.getD k.toNat 0).toNat:Int)=j:=by
      have h1:(l.map (fun u=>(u.toNat:Int)))[k.toNat]? = some j:=(congrArg (·[k.toNat]?) r1.2).trans e
      rw [List.getElem?_map] at h1
      rw [List.getD_eq_getElem?_getD]
      exact (Option.map_eq_some_iff.mp h1).elim fun _ q=>q.1 ▸ q.2
    exact d (z.newInt j).2 (z.newInt j).1 (this ▸ VR.newI _ _ _)
noncomputable def pickA (xs:List AV) (lo hi:Option Int):List AV:=(xs.drop (kms_lo lo xs.length)).take (kms_hi hi xs.length - kms_lo lo xs.length)
theorem VRs.pick {xs:List AV} {vs:List Value} (r:VRs x xs vs) (lo hi:Option Int):VRs x (pickA xs lo hi) (kms_pick vs lo hi):=by
  unfold pickA kms_pick
  rw [r.length]
  exact (r.drop _).take _
inductive Bnd:AV→Option Int→Prop
  | none:Bnd .none .none
  | int {i:Int}:Bnd (.int i) (.some i)
theorem Bnd.part {lo:Option Int} {w:Value} (h:Bnd v lo) (r:VR x v w):IsPart w lo:=by
  cases h with
  | none=>exact r ▸ .none
  | int=>exact r.elim fun _ q=>q.2 ▸ .int _ _
noncomputable def OptE (c:Cx) (l:Loc) (H:AHeap) (e:Option Expr) (v:AV) (H':AHeap):Prop:=
  ∀ {x s A env},Ready c l H x s A env→∀ {Q E},Ok c.g VR x s v H' Q→wpAny c.M A (valueOrNone (evalOpt e env)) Q E s
theorem opt_none:OptE c l H none .none H:=fun p _ _ d=>wpAny_pure (d.here p.z rfl)
theorem opt_some (h:Ev c l H e v H1):OptE c l H (some e) v H1:=h
noncomputable def ListQ (H:AHeap) (i:Nat) (xs:List AV):Prop:=H[i]? = some (.list xs)∨∃ o,H[i]? = some (.fix o xs)
theorem ListQ.wp {i:Nat} {xs:List AV} {va:Value} (h:ListQ H i xs) (z:Rl g x H s) (r:VR x (.ob i) va) {P:Value→Prop} (k:∀ a vs n,s.heap.get? a=some (seqOb "list" vs n)→VRs x xs vs→P (.ref a)):P va:=
  h.elim (fun h=>z.list h r fun a vs n _=>k a vs n) fun h=>h.elim fun o h=>r.elim fun a q=>(z.obj i _ a h q.1).elim fun vs o=>o.elim fun n o=>q.2 ▸ k a vs n (o.1.trans (congrArg some o.2.1)) o.2.2
theorem ev_slice {i:Nat} {xs:List AV} {o1 o2:Option Expr} {lo hi:Option Int} {a1:Pos} (h1:Ev c l H e1 (.ob i) H1) (h2:OptE c l H1 o1 v1 H2) (h3:OptE c l H2 o2 v2 H3) (b1:Bnd v1 lo) (b2:Bnd v2 hi) (h:ListQ H3 i xs) (hl:xs.length≤1000) :
    Ev c l H (.Subscript e1 (.Slice o1 o2 none a1) pos) (.ob H3.length) (H3++[.list (pickA xs lo hi)]):=fun p Q E d=>by
  rw [arm_eval_Subscript]
  refine wpAny_bind (h1 p fun s1 z1 r1=>wpAny_bind (wpAny_holding ?_))
  rw [arm_eval_Slice]
  refine wpAny_bind (h2 (p.step s1 z1) fun {_ _ vl} s2 z2 r2=>wpAny_bind (wpAny_holding (h3 (p.step (s1.trW s2) z2) fun {_ t3 vu} s3 z3 r3=>wpAny_bind (wpAny_holding (wpAny_pure (wpAny_newObj_type (T:="slice") (dict:=none) (wpAny_bind (wpAny_standAt ?_)) (by show (2:Nat)+1≤sizeLine+2;exact Nat.add_le_add_left (Nat.le_trans (by decide) bigLine) _)))))))
  refine h.wp z3 (r1.mono (Wd.le_trans s2.le s3.le)) (P:=fun u=>wpAny _ _ (subscriptTail _ _ u _) _ _ _) fun a vs n g1 q1=>?_
  have zs:=z3.push { cls:=.type "slice",dict:=none,data:=.fields [vl,vu,Value.none].toArray } t3.toks
  refine tail_any (ops:=[.ref _,.ref a]) ((isList g1).push _).typeIs list_getitem_lookup (wpAny_getItem_list_slice ((isList g1).push _) (Heap.IsSliceOf.new ..) (b1.part (r2.mono s3.le)) (b2.part r3) .none (by simp) ?_ (size_le q1 hl)) rfl
  rw [kms_pick_eq,List.toList_toArray]
  exact Ok.newList (Ok.mv ((s1.trW s2).trW (s3.trW zs.2)) d) zs.1 (q1.pick lo hi) _
noncomputable def SetI (g:Gx) (H:AHeap) (a b v:AV) (H':AHeap):Prop:=
  ∀ {x s A va vb w},Rl g x H s→VR x a va→VR x b vb→VR x v w→∀ {Q:Post Unit} {E},(∀ {y t},Step [] x s y t→Rl g y H' t→Q () t)→wpAny g.M A (setItem va vb w) Q E s
theorem s_list {i:Nat} {k:Int} {xs:List AV} (h:H[i]? = some (.list xs)) (h0:0≤k) (hf:k < 2 ^ 63) (hk:k < xs.length):SetI g H (.ob i) (.int k) v (H.set i (.list (xs.set k.toNat v))):=fun {x s A _ _ w} z r1 r2 r3 _ _ d =>
  z.list h r1 (P:=fun u=>wpAny _ _ (setItem u _ _) _ _ _) fun a vs n ea g1 q1=>r2.elim fun t q=>q.2 ▸ ki_setAt g1 h0 hf (show k < (vs.length:Int) from q1.length ▸ hk)
    (have zz:=z.put (h':=s.heap.update a (Obj.mapSeq (·.setIfInBounds k.toNat w))) (tk:=s.toks) (o:=.list (xs.set k.toNat v)) ea (fun b o hb e=>(Heap.get?_update_ne _ _ _ _ hb).trans e)
      ⟨vs.set k.toNat w,_,(Heap.get?_update_self (Obj.mapSeq (·.setIfInBounds k.toNat w)) g1 rfl).trans (congrArg (fun q=>some { cls:=Value.type "list",data:=Data.seq q _:Obj }) (List.setIfInBounds_toArray ..)),q1.set r3 _⟩ (notExc g1 (ne_code (by decide)))
     d zz.2 zz.1)
theorem stored_cons {k l:Str} {u y:Value} {r:List (Str × Value)} (h:k=l→k∉r.map (·.1)):stored ((l,y) :: r) k u=if k=l then (l,u) :: r else (l,y) :: stored r k u:=by
  unfold stored
  by_cases q:k=l
  · subst q
    rw [if_pos rfl,List.any_cons,decide_eq_true rfl,Bool.true_or,if_pos rfl,List.map_cons,if_pos rfl]
    exact congrArg (List.cons (k,u)) ((List.map_congr_left fun p m=>if_neg fun e=>h rfl (List.mem_map.mpr ⟨p,m,e⟩)).trans (List.map_id _))
  · rw [if_neg q,List.any_cons,decide_eq_false (Ne.symm q),Bool.false_or,List.map_cons,if_neg (Ne.symm q)]
    split <;> rfl
theorem NRs.stored {k:Str} {u:Value} (ha:VR x v u) {es:List (Str × AV)} {vs:List (Str × Value)} (r:NRs x es vs):(vs.map (·.1)).Nodup→NRs x (putD k v es) (stored vs k u):=by
  induction r with
  | nil=>exact fun _=>.cons ha .nil
  | @cons l _ _ es vs p q ih =>
    intro nd
    have nd:=List.nodup_cons.mp nd
    rw [stored_cons fun e=>e ▸ nd.1]
    show NRs x (if k=l then (l,v) :: es else _) _
    by_cases h:k=l
    · rw [if_pos h,if_pos h];exact .cons ha q
    · rw [if_neg h,if_neg h];exact .cons p (ih nd.2)
theorem NRs.length {es:List (Str × AV)} {vs:List (Str × Value)} (r:NRs x es vs):es.length=vs.length:=by
  induction r with
  | nil=>rfl
  | cons _ _ q=>exact congrArg (·+1) q
theorem dictOf_nodup {h:Heap} {a:Addr} {vs:List (Str × Value)} (d:h.DictOf g.kd a vs):(vs.map (·.1)).Nodup:=d.elim fun _ d=>d.elim fun _ d=>d.elim fun _ d=>d.2.2.2.2.2
theorem s_dict {i:Nat} {k:Str} {es:List (Str × AV)} (h:H[i]? = some (.dict es)) (hl:es.length≤1000):SetI g H (.ob i) (.str k) v (H.set i (.dict (putD k v es))):=fun {x s A _ _ w} z r1 r2 r3 _ _ d =>
  z.dict h r1 (P:=fun u=>wpAny _ _ (setItem u _ _) _ _ _) fun a vs ea d1 q1=>r2.elim fun t q=>q ▸ wpAny_setItem_pairs (strKind_is _ _ k t) d1 (fun h' d2 hs =>
    (have zz:=z.put (h':=h') (tk:=s.toks+1) (o:=.dict (putD k v es)) ea (fun b o hb e=>(hs.2 b hb).trans e) ⟨_,d2,q1.stored r3 (dictOf_nodup d1)⟩ ((dictOf_get d1).elim fun _ q=>notExc q.1 (q.2 ▸ ne_code (by decide)))
     d zz.2 zz.1)) (Nat.le_trans (q1.length ▸ hl) bigLine)
theorem s_barr {i:Nat} {k u:Int} {xs:List Int} (h:H[i]? = some (.barr xs)) (h0:0≤k) (hk:k.toNat < xs.length) (hl:xs.length≤1000) (u0:0≤u) (u1:u < 256):SetI g H (.ob i) (.int k) (.int u) (H.set i (.barr (xs.set k.toNat u))):=fun {x s A _ _ w} z r1 r2 r3 _ _ d =>
  r1.elim fun a r1=>(z.obj i _ a h r1.1).elim fun b o=>r2.elim fun t r2=>r3.elim fun t' r3=>by
    rw [r1.2,r2.2,r3.2]
    have hb:xs.length=b.size:=(congrArg List.length o.2).symm.trans (List.length_map _)
    refine up (MineL.ba_setAt o.1 h0 (hb ▸ hk) (hb ▸ hl) u0 u1 ?_)
    have zz:=z.put (h':=s.heap.update a (Obj.mapBytearray (·.setIfInBounds k.toNat u.toNat.toUInt8))) (tk:=s.toks) (o:=.barr (xs.set k.toNat u)) r1.1 (fun b o hb e=>(Heap.get?_update_ne _ _ _ _ hb).trans e)
      ⟨b.setIfInBounds k.toNat u.toNat.toUInt8,Heap.get?_update_self (Obj.mapBytearray (·.setIfInBounds k.toNat u.toNat.toUInt8)) o.1 rfl,by
        rw [Array.toList_setIfInBounds,List.map_set,o.2]
        exact congrArg (xs.set k.toNat) ((congrArg Int.ofNat (Nat.mod_eq_of_lt (show u.toNat < 256 by omega))).trans (Int.toNat_of_nonneg u0))⟩ (notExc o.1 (ne_code (by decide)))
    exact d zz.2 zz.1
end
section
variable {c:Cx} {g:Gx} {x y:Wd} {H H1 H2 H3 H4:AHeap} {s t:Shared} {A:Around} {l:Loc} {env:Env} {e e1 e2:Expr} {v v1 v2 f:AV} {nm:Str} {pos np ap:Pos} {Q:Post Value} {E:Post Value} {r:List Expr} {vs:List AV} {ks:List Keyword} {kv:List (Str × AV)} {n:Nat} {hd:Bool} {i:Nat} {xs:List AV}
theorem m_append (z:Rl g x H s) {u w:Value} (h:H[i]? = some (.list xs)) (hl:xs.length≤1000) (r1:VR x (.ob i) u) (r2:VR x v w) (d:Ok g VR x s .none (H.set i (.list (xs++[v]))) Q):wpAny g.M A (PySem.call (.builtin "list.append") [u,w]) Q E s:=
  z.list h r1 (P:=fun u=>wpAny _ _ (PySem.call (.builtin "list.append") [u,w]) _ _ _) fun a vs m ea g1 q1=>wpAny_list_append_plain ⟨m,g1⟩ (fun h' hp hs=>hp.elim fun m' g2 =>
    (have zz:=z.put (h':=h') (tk:=s.toks) (o:=.list (xs++[v])) ea (fun b o hb e=>(hs.2 b hb).trans e) ⟨vs++[w],m',g2.trans (congrArg (fun q=>some { cls:=Value.type "list",data:=Data.seq q m':Obj }) (List.push_toArray ..)),q1.append (.cons r2 .nil)⟩ (notExc g1 (ne_code (by decide)))
     d zz.2 zz.1 rfl)) (size_le q1 hl)
theorem insert_eq (vs:List Value) (w:Value) {k:Int} (hk:0≤k) :
    (fun ys:Array Value=>have k':=if k < 0 then (k+((ys.size:Nat):Int)).toNat else min k.toNat ys.size;(ys.extract 0 k').push w++ys.extract k') vs.toArray=(vs.take k.toNat++w :: vs.drop k.toNat).toArray:=by
  dsimp only
  rw [if_neg (Int.not_lt.mpr hk)]
  apply Array.toList_inj.mp
  rw [Array.toList_append,Array.toList_push,Array.toList_extract,Array.toList_extract,List.append_assoc]
  show List.take (min k.toNat vs.length - 0) (List.drop 0 vs)++([w]++List.take (vs.length - min k.toNat vs.length) (List.drop (min k.toNat vs.length) vs))=List.take k.toNat vs++w :: List.drop k.toNat vs
  rw [List.drop_zero,Nat.sub_zero,List.take_of_length_le (show (List.drop (min k.toNat vs.length) vs).length≤vs.length - min k.toNat vs.length by rw [List.length_drop];exact Nat.le_refl _)]
  rcases Nat.le_total k.toNat vs.length with h | h
  · rw [Nat.min_eq_left h];rfl
  · rw [Nat.min_eq_right h,List.take_of_length_le h,List.drop_eq_nil_of_le h,List.take_of_length_le (Nat.le_refl _),List.drop_eq_nil_of_le (Nat.le_refl _),List.append_nil]
theorem m_insert (z:Rl g x H s) {u t w:Value} {k:Int} (h:H[i]? = some (.list xs)) (hl:xs.length≤1000) (h0:0≤k) (h1:k < 1000) (r1:VR x (.ob i) u) (r2:VR x (.int k) t) (r3:VR x v w) (d:Ok g VR x s .none (H.set i (.list (xs.take k.toNat++v :: xs.drop k.toNat))) Q) :
    wpAny g.M A (PySem.call (.builtin "list.insert") [u,t,w]) Q E s:=
  z.list h r1 (P:=fun u=>wpAny _ _ (PySem.call (.builtin "list.insert") [u,t,w]) _ _ _) fun a vs m ea g1 q1=>r2.elim fun tk q=>q.2 ▸
    call_meets PySem.F.slot_list_insert ⟨_,g1,rfl⟩ PySem.F.entry_list_insert (PySem.F.args_list_insert_3 _ _ _)
      (AutoListH.list_insert_list_int_val_1 a vs.toArray m k tk w (by simp [Builtin.List.listFitsIndex];omega) (size_le q1 hl)) ⟨g1,
    (have zz:=z.put (h':=s.heap.update a (Obj.mapSeq _)) (tk:=s.toks) (o:=.list (xs.take k.toNat++v :: xs.drop k.toNat)) ea (fun b o hb e=>(Heap.get?_update_ne _ _ _ _ hb).trans e)
        ⟨vs.take k.toNat++w :: vs.drop k.toNat,_,(Heap.get?_update_self (Obj.mapSeq _) g1 rfl).trans (congrArg (fun q=>some { cls:=Value.type "list",data:=Data.seq q _:Obj }) (insert_eq vs w h0)),(q1.take _).append (.cons r3 (q1.drop _))⟩ (notExc g1 (ne_code (by decide)))
     d zz.2 zz.1 rfl)⟩
noncomputable def Meth (g:Gx) (H:AHeap) (i:Nat) (nm:Str) (vs:List AV) (H':AHeap):Prop:=∃ id,Slot "list" nm id∧typeOf (.builtin id)=pure (.type "method_descriptor") ∧
  ∀ {x s A u us Q E},Rl g x H s→VR x (.ob i) u→VRs x vs us→Ok g VR x s .none H' Q→wpAny g.M A (PySem.call (.builtin id) (u :: us)) Q E s
theorem mt_append (h:H[i]? = some (.list xs)) (hl:xs.length≤1000):Meth g H i "append" [v] (H.set i (.list (xs++[v]))):=⟨_,PySem.slot_list_append,PySem.type_list_append,fun {_ _ _ u _ _ _} z r1 r2 d =>
  r2.cons_ (P:=fun us=>wpAny _ _ (PySem.call _ (u :: us)) _ _ _) fun a _ r2 r3=>r3.nil_ (P:=fun us=>wpAny _ _ (PySem.call _ (u :: a :: us)) _ _ _) (m_append z h hl r1 r2 d)⟩
theorem mt_insert {k:Int} (h:H[i]? = some (.list xs)) (hl:xs.length≤1000) (h0:0≤k) (h1:k < 1000):Meth g H i "insert" [.int k,v] (H.set i (.list (xs.take k.toNat++v :: xs.drop k.toNat))):=⟨_,PySem.F.slot_list_insert,PySem.F.type_list_insert,fun {_ _ _ u _ _ _} z r1 r2 d =>
  r2.cons_ (P:=fun us=>wpAny _ _ (PySem.call _ (u :: us)) _ _ _) fun a _ r2 r3=>r3.cons_ (P:=fun us=>wpAny _ _ (PySem.call _ (u :: a :: us)) _ _ _) fun b _ r3 r4=>r4.nil_ (P:=fun us=>wpAny _ _ (PySem.call _ (u :: a :: b :: us)) _ _ _) (m_insert z h hl h0 h1 r1 r2 r3 d)⟩
noncomputable abbrev CallForm (es:List Expr):Prop:=∀ pos env,methodCallForm (es.length+([]:List Keyword).length) (plainArgs es env) (backToKw pos (keywordEach [] env))=true
theorem plain_any (es:List Expr) (env:Env):(plainArgs es env).any (·.1)=false:=by
  induction es with
  | nil=>rfl
  | cons e r ih=>exact ih
theorem method_list {id:String} {a:Addr} {us:List Value} {m:Nat} (slot:Slot "list" nm id) (hty:typeOf (.builtin id)=pure (.type "method_descriptor")) (hl:s.heap.get? a=some (seqOb "list" us m)) (hc:CallForm (e :: r)) (hp:(ap.endLine == pos.line)=true)
    (h:wpAny g.M A (spliced (plainArgs (e :: r) env)) (fun us t=>wpAny g.M A (PySem.call (.builtin id) (.ref a :: us)) Q E t) E s) :
    wpAny g.M A (methodCall e1 nm ap pos env (.ref a) ((e :: r).length+([]:List Keyword).length) (plainArgs (e :: r) env) (backToKw pos (keywordEach [] env))) Q E s:=by
  unfold methodCall
  rw [hc]
  refine wpAny_bind (wpAny_holding ?_)
  unfold calleeOf
  refine wpIfPos rfl (getMethod_list_of slot hty (isList hl) ⟨_,hl,rfl⟩ ?_)
  unfold methodCallPos
  rw [hp]
  exact wpAny_bind (wpIfPos (show (!true || true)=true from rfl) (wpAny_pure (callWith_builtin (plain_any _ _) (evalArgs_plain h))))
theorem ev_meth (hb:Base e1) (hs:Plain (e :: r)) (hc:CallForm (e :: r)) (hp:(ap.endLine == pos.line)=true) (h1:Ev c l H e1 (.ob i) H1) (hx:H1[i]? = some (.list xs)) (h2:Es c l H1 (e :: r) vs H2) (h3:Meth c.g H2 i nm vs H3) :
    Ev c l H (.Call (.Attribute e1 nm ap) (e :: r) [] pos) .none H3:=fun p Q E d=>by
  rw [arm_eval_Call,hb,hs]
  refine wpAny_bind (h1 p fun s1 z1 r1=>wpAny_bind (wpAny_standAt (z1.list hx r1 (P:=fun u=>wpAny _ _ (methodCall _ _ _ _ _ u _ _ _) _ _ _) fun a us m ea g1 q1=>?_)))
  exact h3.elim fun id h3=>method_list h3.1 h3.2.1 g1 hc hp (h2 (p.step s1 z1) fun s2 z2 r2=>h3.2.2 z2 ⟨a,prefix_get s2.le.1 ea,rfl⟩ r2 (d.mv (s1.trW s2)))
noncomputable def Keeps' (f:Value) (s:Shared):Prop:=keeperOf f=pure .machine∨∃ a o fd,f = .ref a∧s.heap.get? a=some o∧o.data = .func fd
inductive FnQ (H:AHeap):AV→Prop
  | top {a:Nat}:(defTab.any fun d=>d.addr == a)=true→FnQ H (.top a)
  | ob {i:Nat} {q p b sc cl d}:H[i]? = some (.fn q p b sc cl d)→FnQ H (.ob i)
  | bi {id}:FnQ H (.bi id)
  | ty {id}:FnQ H (.ty id)
theorem FnQ.keeps (z:Rl g x H s) {w:Value} (h:FnQ H f) (r:VR x f w):Keeps' w s:=by
  cases h with
  | top h=>exact (List.any_eq_true.mp h).elim fun d q=>(z.tp.fns d q.1).rec fun e _ _ _=>.inr ⟨_,_,_,r.1,eq_of_beq q.2 ▸ e,rfl⟩
  | ob h=>exact r.elim fun a r=>(z.obj _ _ a h r.1).rec fun e _ _ _=>.inr ⟨_,_,_,r.2,e,rfl⟩
  | bi=>exact .inl (r ▸ rfl)
  | ty=>exact .inl (r ▸ rfl)
theorem callWith_any {f:Value} {args:List (Bool × Sem Value)} {kw:List (Option Str × Sem Value)} (hp:args.any (·.1)=false) (hk:kw.any (·.1.isNone)=false)
    (h:wpAny g.M A (evalArgs f true args kw) (fun a s₁=>Keeps' f s₁∧wpAny g.M A (PySem.call f a.pos a.kw) Q E s₁) E s):wpAny g.M A (callWith pos f [] args kw) Q E s:=by
  unfold callWith
  refine wpAny_bind (wpAny_holding (wpAny_mono h (fun a s₁ h₁=>wpAny_bind (wpAny_standAt ?_)) fun _ _ x=>x))
  rw [hp,hk]
  have tail:∀ {t:Sem Value},wpAny g.M A t Q E s₁→wpAny g.M A (t >>= fun r=>holding [r] point >>= fun _=>pure r) Q E s₁:=
    fun ht=>wpAny_bind (wpAny_mono ht (fun r s₂ hr=>wpAny_bind (wpAny_holding (wpAny_point (wpAny_pure hr)))) fun _ _ x=>x)
  exact h₁.1.elim (fun hf=>hf ▸ wpAny_bind (wpAny_pure (tail h₁.2))) fun q=>q.elim fun b q=>q.elim fun o q=>q.elim fun fd q=>by
    have hb:=q.1
    subst hb
    refine wpAny_bind (m:=keeperOf (.ref b)) (wpAny_bind (wpAny_load q.2.1 ?_))
    rw [q.2.2]
    refine wpAny_pure ?_
    show wpAny _ _ (if args.length+2 * kw.length > 30 then _ else _) _ _ _
    split
    · exact tail h₁.2
    · exact tail (wpAny_keep h₁.2)
noncomputable abbrev KwOk (ks:List Keyword):Prop:=∀ pos env,(backToKw pos (keywordEach ks env)).any (·.1.isNone)=false∧(backToKw pos (keywordEach ks env)).all (·.1.isSome)=true∧(backToKw pos (keywordEach ks env)).filterMap (·.1)=ks.filterMap (·.arg)
theorem ks_nil:Ks c l H [] [] H:=fun p _ _ _ d=>wpAny_pure (d.here p.z .nil)
theorem ks_cons {kr:List Keyword} (h1:Ev c l H e v H1) (h2:Ks c l H1 kr kv H2):Ks c l H (⟨some nm,e,np⟩ :: kr) ((nm,v) :: kv) H2:=fun p pos _ _ d =>
  wpAny_evalAll_cons (wpAny_bind (m:=eval e _) (h1 p fun s1 z1 r1=>wpAny_bind (wpAny_standAt (wpAny_pure (h2 (p.step s1 z1) pos fun s2 z2 r2=>d (s1.trW s2) z2 (.cons (r1.mono s2.le) r2))))))
theorem call_wp (hs:Plain (e :: r)) (hk:KwOk ks) (h1:Ev c l H (.Name nm np) f H1) (h2:Es c l H1 (e :: r) vs H2) (h3:Ks c l H2 ks kv H3) (hf:FnQ H3 f) (p:Ready c l H x s A env)
    (h:∀ {y t fv us kw},Step [] x s y t→Rl c.g y H3 t→Amb y t.heap A c.n c.k.hd→VR y f fv→VRs y vs us→NRs y kv kw→wpAny c.M A (PySem.call fv us kw) Q E t):wpAny c.M A (eval (.Call (.Name nm np) (e :: r) ks pos) env) Q E s:=by
  show wpAny _ _ (do callWith pos (←eval (.Name nm np) env) [] (backTo pos (starEach (e :: r) env)) (backToKw pos (keywordEach ks env))) _ _ _
  rw [hs]
  have k:=hk pos env
  exact wpAny_bind (h1 p fun s1 z1 r1=>callWith_any (plain_any _ _) k.1 (evalArgs_kw k.2.1 (h2 (p.step s1 z1) fun s2 z2 r2=>h3 (p.step (s1.trW s2) z2) pos fun s3 z3 r3 =>
    ⟨hf.keeps z3 (r1.mono (Wd.le_trans s2.le s3.le)),h ((s1.trW s2).trW s3) z3 (p.step ((s1.trW s2).trW s3) z3).a (r1.mono (Wd.le_trans s2.le s3.le)) (r2.mono s3.le) (k.2.2 ▸ r3)⟩)))
theorem ev_call (hs:Plain (e :: r)) (hk:KwOk ks) (h1:Ev c l H (.Name nm np) f H1) (h2:Es c l H1 (e :: r) vs H2) (h3:Ks c l H2 ks kv H3) (hf:FnQ H3 f) (h4:Call c.g c.n c.k.hd H3 f vs kv v H4):Ev c l H (.Call (.Name nm np) (e :: r) ks pos) v H4:=fun p _ _ d =>
  call_wp hs hk h1 h2 h3 hf p fun st z a q1 q2 q3=>h4 z a q1 q2 q3 (d.mv st)
theorem evx_call (hs:Plain (e :: r)) (hk:KwOk ks) (h1:Ev c l H (.Name nm np) f H1) (h2:Es c l H1 (e :: r) vs H2) (h3:Ks c l H2 ks kv H3) (hf:FnQ H3 f) (h4:CallX c.g c.n c.k.hd H3 f vs kv i H4):EvX c l H (.Call (.Name nm np) (e :: r) ks pos) i H4:=fun p _ _ d =>
  call_wp hs hk h1 h2 h3 hf p fun st z a q1 q2 q3=>h4 z a q1 q2 q3 fun s z=>d (st.trW s) z
theorem getMethod_fn {a:Addr} {o:Obj} {pl:Sem Bool} {Q:Value × List Value→Shared→Prop} (ho:s.heap.get? a=some o) (hc:o.cls = .type "function") (hn:attrNames.contains nm=true)
    (h:wpAny g.M A (getAttr (.ref a) nm) (fun v t=>Q (v,[]) t) E s):wpAny g.M A (getMethod (.ref a) nm pl) Q E s:=by
  have hT:s.TypeIs (.ref a) "function":=⟨o,ho,hc⟩
  unfold getMethod
  refine wpAny_bind (wpAny_specialOf hT slot_fn_ga.lookup ?_)
  show wpAny _ A (if (Manifest.canonical "object.__getattribute__" != "object.__getattribute__")=true then _ else _) Q E s
  refine wpIfNeg (by decide +kernel) (wpAny_bind (wpAny_specialOf hT fn_none_getattr (wpAny_bind (wpAny_specialOf hT (fn_none_name hn) ?_))))
  exact wpAny_bind (wpAny_mono h (fun v t hq=>wpAny_pure hq) fun _ _ y=>y)
theorem ev_mfn (hb:Base e1) (hs:Plain (e :: r)) (hc:CallForm (e :: r)) (hp:(ap.endLine == pos.line)=true) (h1:Ev c l H e1 (.ob i) H1) (h:AttrQ H1 i nm f) (h2:Es c l H1 (e :: r) vs H2) (hf:FnQ H2 f) (h4:Call c.g c.n c.k.hd H2 f vs [] v H3) :
    Ev c l H (.Call (.Attribute e1 nm ap) (e :: r) [] pos) v H3:=fun {x s A env} p Q E d=>by
  rw [arm_eval_Call,hb,hs]
  refine wpAny_bind (h1 p fun s1 z1 r1=>wpAny_bind (wpAny_standAt ?_))
  have hh:=h
  exact hh.rec fun q1 q2 q3 q4 q5=>r1.elim fun a r1=>(z1.obj i _ a q1 r1.1).rec fun g1 _ _ _=>by
    rw [r1.2]
    unfold methodCall
    rw [hc]
    refine wpAny_bind (wpAny_holding ?_)
    unfold calleeOf
    refine wpIfPos rfl (getMethod_fn g1 rfl q3 (attr_wp z1 h ⟨a,r1.1,rfl⟩ false fun s2 z2 r2=>?_))
    unfold methodCallPos
    rw [hp]
    have s12:=s1.trW s2
    exact wpAny_bind (wpIfPos (show (!true || true)=true from rfl) (wpAny_pure (callWith_any (plain_any _ _) rfl (evalArgs_plain (h2 (p.step s12 z2) fun s3 z3 r3 =>
      ⟨hf.keeps z3 (r2.mono s3.le),h4 z3 (p.step (s12.trW s3) z3).a (r2.mono s3.le) r3 .nil (d.mv (s12.trW s3))⟩)))))
end
section
variable {c:Cx} {g:Gx} {x y:Wd} {H H1 H2 H3 H4:AHeap} {s t:Shared} {A:Around} {l l1 l2:Loc} {env:Env} {e e1 e2 tg:Expr} {v v1 v2 f:AV} {nm:Str} {pos np ap:Pos} {Q:Post Unit} {E:Post Value} {es:List Expr} {vs:List AV} {n:Nat} {i:Nat} {xs:List AV} {k:K} {u:Value}
noncomputable def upd (n:Str) (v:AV):Loc→Loc
  | []=>[(n,v)]
  | (k,u) :: r=>if n == k then (k,v) :: r else (k,u) :: upd n v r
theorem upd_lookup {k n:Str} {v:AV}:∀ {es:Loc},(upd k v es).lookup n=if n=k then some v else es.lookup n
  | []=>look_cons
  | (l, u) :: r=>by
    show List.lookup n (if (k == l)=true then (l,v) :: r else (l,u) :: upd k v r)=_
    by_cases hk:k=l
    · rw [if_pos (beq_iff_eq.mpr hk),look_cons,look_cons,hk]
      by_cases h:n=l
      · rw [if_pos h,if_pos h]
      · rw [if_neg h,if_neg h,if_neg h]
    · rw [if_neg fun q=>hk (eq_of_beq q),look_cons,look_cons,upd_lookup]
      by_cases h:n=l
      · rw [if_pos h,if_neg fun q=>hk (q.symm.trans h),if_pos h]
      · rw [if_neg h,if_neg h]
theorem Locals.put {h':Heap} {L:Addr} {m:Str→Option Value} (hl:∀ n av,l.lookup n=some av→∃ v,m n=some v∧VR x av v) (hn:h'.Ns L (fun y=>if y=nm then some u else m y)) (r:VR x v u):Locals x h' (upd nm v l) L:=
  ⟨_, hn,fun k av e=>by
    rw [upd_lookup] at e
    by_cases hk:k=nm
    · rw [if_pos hk] at e ⊢;exact ⟨u,rfl,Option.some.inj e ▸ r⟩
    · rw [if_neg hk] at e ⊢;exact hl k av e⟩
theorem Rl.frame (z:Rl g x H s) (r:EnvB x s.heap k l env) {h':Heap} {tk:Nat} (k:∀ b,b≠env.locals→h'.get? b=s.heap.get? b) (hs:DictAt h' env.locals) (ht:s.toks≤tk):Rl g x H { s with heap:=h',toks:=tk }∧Step [env.locals] x s x { s with heap:=h',toks:=tk }:=
  z.side (XOk.one r.llow r.ns.dict) (fun _ m=>List.mem_singleton.mp m ▸ ⟨r.lown,r.ns.dict.elim fun _ q=>notExcD q.1 q.2⟩) (fun b o hb e=>(k b fun q=>hb (List.mem_singleton.mpr q)).trans e) (Live.but (fun b o hb e=>(k b hb).trans e) (hs.imp fun _ q=>q.1)) ht
noncomputable def SnB (g:Gx) (k:K) (l:Loc) (H:AHeap) (nm:Str) (v:AV) (l':Loc) (H':AHeap):Prop:=
  ∀ {x s A env u},Rl g x H s→EnvB x s.heap k l env→VR x v u→∀ {Q:Post Unit} {E},(∀ {y t},Step [env.locals] x s y t→Rl g y H' t→EnvB y t.heap k l' env→Q () t)→wpAny g.M A (storeName env nm u) Q E s
theorem clsF (r:EnvB x s.heap k l env):(env.scope.kind == .class || (env.scope.kind == .module && env.locals != env.globals))=false:=by rw [r.kindE];rfl
theorem sn_loc (h:k.scope.names.lookup nm=some .local):SnB g k l H nm v (upd nm v l) H:=fun {x s A env u} z r hu Q E d =>
  r.ns.elim fun m n=>wpAny_storeName_local ((r.kof nm).trans h) n.1 (fun h' hn hs =>
    (have zz:=z.frame r (h':=h') (tk:=s.toks+1) hs.2 (Ns.dict hn) (Nat.le_succ _)
     d zz.2 zz.1 ⟨r.scope,r.kind,r.qual,r.glob,r.blt,r.cells,Locals.put n.2 hn hu,r.lown,r.llow⟩)) (clsF r)
theorem sn_cell {v0:Option AV} (h:k.scope.names.lookup nm=some .cell) (hc:k.cells.lookup nm=some i) (hv:H[i]? = some (.cell v0)):SnB g k l H nm v l (H.set i (.cell (some v))):=fun {x s A env u} z r hu Q E d=>by
  unfold storeName
  rw [r.kof,h,r.kindE]
  exact (r.cells.look hc).elim fun a e=>(z.obj _ _ a hv e.2).elim fun u0 o=>wpAny_bind (wpAny_cellOf e.1 (wpAny_bind (m:=load _) (wpAny_load o.1 (wpAny_update o.1
    (have zz:=z.put (h':=s.heap.update a fun o=>{ o with data:=.cell (some u) }) (tk:=s.toks) (o:=.cell (some v)) e.2 (fun b o hb e=>(Heap.get?_update_ne _ _ _ _ hb).trans e)
      ⟨some u,Heap.get?_update_self _ o.1 rfl,u,rfl,hu⟩ (notExc o.1 (ne_code (by decide)))
     d zz.2.weak zz.1 (r.step zz.2))))))
noncomputable def Sn (c:Cx) (l:Loc) (H:AHeap) (nm:Str) (v:AV) (l':Loc) (H':AHeap):Prop:=
  ∀ {x s A env u},Ready c l H x s A env→VR x v u→∀ {Q:Post Unit} {E},OkL c A env x s l' H' Q→wpAny c.M A (storeName env nm u) Q E s
theorem Ready.sn (p:Ready c l H x s A env) (st:Step [env.locals] x s y t) (z:Rl c.g y H1 t) (r:EnvB y t.heap c.k l1 env):Ready c l1 H1 y t A env:=
  ⟨z,⟨r,p.r.fr,fun q=>code_step st.le (st.keep.code p.z (XOk.one p.r.b.llow p.r.b.ns.dict)) (p.r.code q)⟩,p.a.step st fun _ m=>List.mem_singleton.mp m ▸ r.ns.dict⟩
theorem SnB.up (h:SnB c.g c.k l H nm v l1 H1):Sn c l H nm v l1 H1:=fun p hu _ _ d=>h p.z p.r.b hu fun st z r=>d st (p.sn st z r)
theorem as_name (h:Sn c l H nm v l1 H1):As c l H (.Name nm pos) v l1 H1:=fun p hu _ _ d=>wpAny_assign_Name (h p hu d)
theorem as_attr_new {q:Str} {p:Arguments} {bd:Expr} {sc:Scope} {cl:List (Str × Nat)} (h1:Ev c l H e (.ob i) H1) (h:H1[i]? = some (.fn q p bd sc cl none)) (hn:attrNames.contains nm=true) :
    As c l H (.Attribute e nm pos) v l (H1.set i (.fn q p bd sc cl (some H1.length))++[.nsd [(nm,v)]]):=fun p hu _ _ d=>by
  rw [arm_assign_Attribute]
  exact wpAny_bind (wpAny_holding (h1 p fun s1 z1 r1=>wpAny_bind (wpAny_standAt (wpAny_bind (wpAny_holding (setattr_new z1 h hn r1 (hu.mono s1.le) fun s2 z2=>wpAny_release (d (s1.trW s2).weak (p.step (s1.trW s2) z2))))))))
theorem as_attr_old {dI:Nat} {es:List (Str × AV)} {q:Str} {p:Arguments} {bd:Expr} {sc:Scope} {cl:List (Str × Nat)} (h1:Ev c l H e (.ob i) H1) (h:H1[i]? = some (.fn q p bd sc cl (some dI))) (h2:H1[dI]? = some (.nsd es)) (hn:attrNames.contains nm=true) :
    As c l H (.Attribute e nm pos) v l (H1.set dI (.nsd (putD nm v es))):=fun p hu _ _ d=>by
  rw [arm_assign_Attribute]
  exact wpAny_bind (wpAny_holding (h1 p fun s1 z1 r1=>wpAny_bind (wpAny_standAt (wpAny_bind (wpAny_holding (setattr_old z1 h h2 hn r1 (hu.mono s1.le) fun s2 z2=>wpAny_release (d (s1.trW s2).weak (p.step (s1.trW s2) z2))))))))
theorem as_sub (h1:Ev c l H e1 v1 H1) (h2:Ev c l H1 e2 v2 H2) (h3:SetI c.g H2 v1 v2 v H3):As c l H (.Subscript e1 e2 pos) v l H3:=fun p hu _ _ d=>by
  rw [arm_assign_Subscript]
  exact wpAny_bind (wpAny_holding (h1 p fun s1 z1 r1=>wpAny_bind (wpAny_holding (h2 (p.step s1 z1) fun s2 z2 r2=>wpAny_bind (wpAny_standAt (wpAny_bind (wpAny_holding (h3 z2 (r1.mono s2.le) r2 (hu.mono (Wd.le_trans s1.le s2.le)) fun s3 z3=>wpAny_release (d ((s1.trW s2).trW s3).weak (p.step ((s1.trW s2).trW s3) z3))))))))))
end
section
variable {c:Cx} {g:Gx} {x y:Wd} {H H1 H2 H3 H4:AHeap} {s t:Shared} {A:Around} {l l1 l2:Loc} {env:Env} {e e1 e2 tg:Expr} {v v1 v2 f:AV} {nm:Str} {pos np ap:Pos} {Q:Post Unit} {E:Post Value} {es:List Expr} {vs:List AV} {n:Nat} {i:Nat} {xs:List AV} {k:K} {u:Value}
variable {E:Post Value}
noncomputable def Held (A:Around) (h:Heap):Prop:=A.handled=none∨∃ e,A.handled=some (.ref e)∧ExcAt h e
theorem Amb.held {h:Heap} {hd:Bool} (a:Amb x h A n hd):Held A h:=a.hdl.imp id fun q=>q.2
theorem entry_unchain:entryFor table "proto.unchain" = some Builtin.«proto.unchain»:=entryFor_of_tree (by kernel_rfl)
theorem raiseNew_held {α:Type} {a:Addr} {o:Obj} {vs:Array Value} {Q:α→Shared→Prop} (hh:Held A s.heap) (ho:s.heap.get? a=some o) (hd:o.data = .fields vs) (hz:2 < vs.size) (hn:∀ e,A.handled=some (.ref e)→e≠a)
    (h:∀ h',Heap.SameBut a s.heap h'→(∃ o',h'.get? a=some o'∧o'.cls=o.cls∧∃ vs',o'.data = .fields vs'∧vs'[0]? = vs[0]?∧vs'[1]? = vs[1]?)→E (.ref a) { s with heap:=h' }) :
    wpAny (model prog w) A (raiseNew (.ref a):Sem α) Q E s:=by
  unfold raiseNew
  refine wpAny_bind (wpAny_handled ?_)
  rcases hh with hh | ⟨e,hh,oe,ve,e1,e2,e3,e4⟩
  · rw [hh]
    exact wpAny_bind (wpAny_pure (wpAny_throw (h _ (.refl ..) ⟨o,ho,rfl,vs,hd,rfl,rfl⟩)))
  · rw [hh]
    have hne:(Value.ref e != Value.ref a)=true:=by simpa using hn e hh
    show wpAny _ _ (if (Value.ref e != Value.ref a)=true then _ else _) _ _ _
    rw [if_pos hne]
    refine wpAny_bind (wpAny_holding (wpAny_runValue (codeAny_builtin entry_unchain ?_)))
    unfold Builtin.«proto.unchain»
    refine wpAny_bind (wpAny_field e1 e3 e4 ?_)
    rw [if_pos (by rfl)]
    refine wpAny_pure ?_
    unfold updateField
    refine wpAny_bind (wpAny_bind (wpAny_load ho ?_))
    rw [hd]
    show wpAny _ _ (if 2 < vs.size then _ else _) _ _ _
    rw [if_pos hz]
    refine wpAny_update ho (wpAny_throw (h _ (.update ..) ⟨_,Heap.get?_update_self _ ho (Obj.isFreed_of_fields (Obj.data_mapFields hd _)),Obj.cls_mapFields ..,_,Obj.data_mapFields hd _,by simp,by simp⟩))
theorem tuple_end {it t:Addr} {i:Nat} {items} {Q:Option Value→Shared→Prop} (hh:Held A s.heap)
    (hit:s.heap.IsTupleIter it t i) (ht:s.heap.IsTuple t items) (hx:items[i]? = none) (hit0:¬ ExcAt s.heap it)
    (hQ:∀ h',Heap.ExtBut it s.heap h'→s.heap.objs.size≤h'.objs.size→Q none { s with heap:=h' }):wpAny (model prog w) A (pyNext (.ref it)) Q E s:=by
  obtain ⟨o,ho,hc,hd⟩:=id hit
  obtain ⟨ol,hol,_,nl,hdl⟩:=ht
  unfold pyNext
  refine wpAny_bind (wpAny_attempt (wpAny_callSpecial?_slot (name:=Str.ofString "__next__") hit.typeIs F.slot_tuple_iterator_next
    (wpAny_call_entry F.slot_tuple_iterator_next hit.typeIs F.entry_tuple_iterator_next ?_ (F.args_tuple_iterator_next_1 _))))
  show wpAny _ _ (field (.ref it) 0 >>= _) _ _ s
  refine wpAny_bind (wpAny_field ho hd (x:=.ref t) rfl ?_)
  show wpAny _ _ (if (Value.ref t == Value.none)=true then _ else _) _ _ s
  rw [if_neg (show ¬ ((Value.ref t == Value.none)=true) from Bool.false_ne_true)]
  show wpAny _ _ (field (.ref it) 1 >>= _) _ _ s
  refine wpAny_bind (wpAny_field ho hd (x:=.int i 0) rfl ?_)
  show wpAny _ _ (seqItems? (.ref t) >>= _) _ _ s
  refine wpAny_bind (wpAny_seqItems hol hdl ?_)
  simp only [Int.toNat_natCast,hx]
  refine wpAny_bind (wpAny_rule (wpAny_bind (wpAny_setField ho hd (by simp) ?_)))
  show wpAny _ _ (newExc (.type "StopIteration") [] >>= _) _ _ _
  refine wpAny_bind ?_
  simp only [newExc,newTuple]
  refine wpAny_bind (wpAny_newObj_type ?_ (by size_fits))
  refine wpAny_bind (m:=firstArgMember _ _) (wpAny_of_eq (a:=Value.none) (by first | rfl | (simp only [firstArgMember];rfl)) ?_)
  refine wpAny_newObj_type ?_ (by size_fits)
  have hlt:=Heap.lt_size ho
  refine raiseNew_held ?_ (Heap.get?_push_size _ rfl) rfl (by simp;omega) ?_ fun h' hs hx'=>?_
  · refine hh.imp id fun ⟨e,h1,oe,ve,e1,r⟩=>⟨e,h1,oe,ve,?_,r⟩
    refine Heap.get?_push_of_some _ (Heap.get?_push_of_some _ ((Heap.get?_update_ne _ _ _ _ fun q=>?_).trans e1))
    exact hit0 (q ▸ ⟨oe,ve,e1,r⟩)
  · intro e he q
    rcases hh with hh | ⟨e',h1,oe,ve,e1,r⟩
    · rw [show A.in1.handled=A.handled from rfl,hh] at he;cases he
    · rw [show A.in1.handled=A.handled from rfl,h1] at he;cases he
      have:=Heap.lt_size e1
      rw [q] at this
      have h3:s.heap.objs.size+1 < s.heap.objs.size:=by simpa using this
      exact absurd h3 (by omega)
  · obtain ⟨o',g',c',_⟩:=hx'
    refine wpAny_bind (wpAny_isInstance (T:="StopIteration") (b:=true) ⟨_,g',c'⟩ isSubtype_stop ?_)
    refine wpAny_pure (hQ _ (fun b ob hb e=>?_) ?_)
    · have hb':=Heap.lt_size e
      exact (hs.2 b (Nat.ne_of_lt (Nat.lt_of_lt_of_le hb' (by simp)))).trans (Heap.get?_push_of_some _ (Heap.get?_push_of_some _ ((Heap.get?_update_ne _ _ _ _ hb).trans e)))
    · rw [hs.1];simp;omega
theorem unpack_tuple {t:Addr} {items:Array Value} {Q:List Value→Shared→Prop} (hh:Held A s.heap) (ht:s.heap.IsTuple t items)
    (hQ:∀ h',(∀ b o,s.heap.get? b=some o→h'.get? b=some o)→s.heap.objs.size≤h'.objs.size→Q items.toList { s with heap:=h' }):wpAny (model prog w) A (unpackItems (.ref t) items.size none) Q E s:=by
  have hlt:t≠s.heap.objs.size:=by obtain ⟨o,ho,_⟩:=ht;exact Nat.ne_of_lt (Heap.lt_size ho)
  unfold unpackItems
  refine wpAny_bind ?_
  unfold notIterableAtAll
  refine wpAny_bind (wpAny_specialOf ht.typeIs F.slot_tuple_iter.lookup ?_)
  refine wpAny_pure ?_
  simp only [Bool.false_eq_true,if_false]
  refine wpAny_bind (wpAny_holding (wpAny_pyIter_tuple ht ?_))
  refine wpAny_bind (wpAny_holding (wpAny_draw_tuple hlt items.size 0 _ _ ⟨_,Heap.get?_push_size _ rfl,rfl,rfl⟩ (ht.push _) (by omega) fun h₁ hit₁ hs₁=>?_))
  have hall:List.take items.size (List.drop 0 items.toList)=items.toList:=by
    rw [List.drop_zero];exact List.take_of_length_le (by simp)
  rw [hall]
  rw [if_neg (by simp)]
  have ht₁:h₁.IsTuple t items:=(ht.push _).extBut hs₁.extBut hlt
  have old:∀ b o,s.heap.get? b=some o→h₁.get? b=some o:=fun b o e=>hs₁.extBut b o (Nat.ne_of_lt (Heap.lt_size e)) (Heap.get?_push_of_some _ e)
  have hh₁:Held A h₁:=hh.imp id fun ⟨e,h1,o,vs,q,r⟩=>⟨e,h1,o,vs,old _ _ q,r⟩
  obtain ⟨oi,e1,e2,e3⟩:=id hit₁
  refine wpAny_bind (wpAny_holding (tuple_end (s:={ s with heap:=h₁ }) hh₁ hit₁ ht₁ (by simp) (notExc e1 (e2 ▸ ne_code (by decide))) fun h₂ he₂ hz=>?_))
  simp only [Option.isSome_none,Bool.false_eq_true,if_false]
  refine wpAny_pure (hQ h₂ (fun b o e=>he₂ b o (Nat.ne_of_lt (Heap.lt_size e)) (old b o e)) ?_)
  have h1:h₁.objs.size=s.heap.objs.size+1:=by rw [hs₁.1];simp
  have h2:h₁.objs.size≤h₂.objs.size:=hz
  omega
end
section
variable {c:Cx} {g:Gx} {x y:Wd} {H H1 H2 H3 H4:AHeap} {s t:Shared} {A:Around} {l l1 l2:Loc} {env:Env} {e e1 e2 tg:Expr} {v v1 v2 f:AV} {nm:Str} {pos np ap:Pos} {Q:Post Unit} {E:Post Value} {es:List Expr} {vs:List AV} {n:Nat} {i:Nat} {xs:List AV} {k:K} {u:Value}
structure At (c:Cx) (l:Loc) (H:AHeap) (ts:List Expr) (vs:List AV) (l':Loc) (H':AHeap):Prop where
  sh:∀ env,(assignEach ts env).findIdx? (·.1)=none∧(assignEach ts env).length=vs.length
  wp:∀ {x s A env us},Ready c l H x s A env→VRs x vs us→∀ {Q:Post Unit} {E},OkL c A env x s l' H' Q→wpAny c.M A (assignInOrder ((assignEach ts env).map (·.2)) us) Q E s
theorem at_nil:At c l H [] [] l H:=⟨fun _=>⟨rfl,rfl⟩,fun p hu _ _ d=>hu.nil_ (P:=fun us=>wpAny _ _ (assignInOrder _ us) _ _ _) (wpAny_pure (d (Step.refl _ _ _) p))⟩
theorem at_cons (he:∀ env,assignEach (tg :: es) env=(false,assign tg env) :: assignEach es env) (h1:As c l H tg v l1 H1) (h2:At c l1 H1 es vs l2 H2):At c l H (tg :: es) (v :: vs) l2 H2 where
  sh:=fun env=>he env ▸ ⟨by rw [List.findIdx?_cons,(h2.sh env).1];rfl,congrArg (·+1) (h2.sh env).2⟩
  wp :=fun p hu _ _ d=>by
    rw [he]
    exact hu.cons_ (P:=fun us=>wpAny _ _ (assignInOrder _ us) _ _ _) fun u us r1 r2=>wpAny_bind (m:=holding us _) (wpAny_holding (h1 p r1 fun s1 p1=>h2.wp p1 (r2.mono s1.le) fun s2 p2=>d (s1.trX s2) p2))
theorem as_tup {k:Nat} (h:H[i]? = some (.tup vs)) (h1:At c l H es vs l1 H1):As c l H (.Tuple es k pos) (.ob i) l1 H1:=fun p hu _ _ d=>p.z.tup h hu (P:=fun u=>wpAny _ _ (assign _ _ u) _ _ _) fun a us m ea g1 q1=>by
  rw [arm_assign_Tuple]
  refine wpAny_bind (wpAny_standAt ?_)
  have sh:=h1.sh
  unfold unpack
  rw [(sh _).1,(sh _).2,q1.length]
  exact wpAny_bind (wpAny_holding (unpack_tuple p.a.held (isTuple g1) fun h' k hz=>(have zz:=p.z.stay k
    h1.wp (p.step zz.2 zz.1) q1 fun s p=>d (zz.2.trW s) p)))
end
noncomputable def excOb (vs:Array Value):Obj:={ cls:=.type "ValueError",data:=.fields vs }
section
variable {c:Cx} {g:Gx} {x y:Wd} {H H1 H2 H3 H4:AHeap} {s t:Shared} {A:Around} {l l1 l2:Loc} {env:Env} {Q:Post Unit} {E:Post Value} {i:Nat} {e:Addr} {oe:Obj} {vs:Array Value}
theorem Rl.excOf (z:Rl g x H s) (ei:x.ρ[i]? = some e) (ge:s.heap.get? e=some oe) (hd:oe.data = .fields vs):∃ m,H[i]? = some (.exc m)∧ExcR x s.heap e m∧oe=excOb vs:=by
  have hi:i < H.length:=z.len ▸ (List.getElem?_eq_some_iff.mp ei).1
  have r:=z.obj i _ e (List.getElem?_eq_getElem hi) ei
  rw [List.getElem?_eq_getElem hi]
  have no:∀ {d:Data},(∃ o,s.heap.get? e=some o∧o.data=d)→(∀ vs,d ≠ .fields vs)→False:=fun q h=>q.elim fun _ q=>h vs (q.2.symm.trans (Option.some.inj (q.1.symm.trans ge) ▸ hd))
  revert r
  cases H[i] with
  | exc m=>exact fun r=>⟨m,rfl,r,r.rec fun e1 _ _ _ _=>by
      have q:=Option.some.inj (ge.symm.trans e1)
      subst q
      exact congrArg excOb (Data.fields.inj hd)⟩
  | list _=>exact fun r=>r.elim fun _ r=>r.elim fun _ r=>(no ⟨_,r.1,rfl⟩ nofun).elim
  | tup _=>exact fun r=>r.elim fun _ r=>r.elim fun _ r=>(no ⟨_,r.1,rfl⟩ nofun).elim
  | dict _=>exact fun r=>r.elim fun _ r=>r.1.elim fun _ r=>r.elim fun _ r=>r.elim fun _ r=>(no ⟨_,r.1,r.2.2.1⟩ nofun).elim
  | cell _=>exact fun r=>r.elim fun _ r=>(no ⟨_,r.1,rfl⟩ nofun).elim
  | fn=>exact fun r=>r.rec fun e1 _ _ _=>(no ⟨_,e1,rfl⟩ nofun).elim
  | barr _=>exact fun r=>r.elim fun _ r=>(no ⟨_,r.1,rfl⟩ nofun).elim
  | nsd _=>exact fun r=>r.elim fun _ r=>r.1.elim fun _ r=>r.elim fun _ r=>r.elim fun _ r=>(no ⟨_,r.1,r.2.1⟩ nofun).elim
  | fix _ _=>exact fun r=>r.elim fun _ r=>r.elim fun _ r=>(no (d:=.seq _ _) ⟨_,r.1,congrArg Obj.data r.2.1⟩ nofun).elim
theorem Rl.exc1 (z:Rl g x H s) (ei:x.ρ[i]? = some e) (ge:s.heap.get? e=some oe) (hd:oe.data = .fields vs) {h':Heap} {vs':Array Value} (ge':h'.get? e=some (excOb vs')) (h0:vs'[0]? = vs[0]?) (h2:vs'[2]? = vs[2]?) (hs:Live s.heap h')
    (k:∀ b o,s.heap.get? b=some o→b≠e→NoTb o→h'.get? b=some o∨(179≤b∧¬ x.own b∧(∃ es n,o.data = .dict es n)∧∃ sl,h'.get? b=some { o with slots:=sl })) :
    Rl g x H { s with heap:=h' }∧Step [] x s x { s with heap:=h' }:=
  have me:=List.mem_of_getElem? ei
  have kb:KeepB x [] s.heap h':=fun b o g no _ nt=>(k b o g (fun q=>no (q ▸ .inl me)) nt).imp id fun q=>⟨q.1,q.2.2⟩
  have ko:∀ b o,x.own b→b≠e→s.heap.get? b=some o→h'.get? b=some o:=fun b o ob ne g=>(k b o g ne (z.ownNoTb ob g)).elim id fun q=>absurd ob q.2.1
  have kd:∀ b o,s.heap.get? b=some o→b≠e→NoTb o→(∀ es n,o.data ≠ .dict es n)→h'.get? b=some o:=fun b o g ne nt nd=>(k b o g ne nt).elim id fun q=>q.2.2.1.elim fun es q=>q.elim fun n q=>absurd q (nd es n)
  (z.excOf ei ge hd).elim fun m q=>by
    have hx:=q.2.2
    subst hx
    refine z.same kb XOk.nil (Nat.le_refl _) hs (fun b r=>?_) rfl (fun j o b e1 e2=>?_) fun P q' mm o g=>ko P o (.inr ⟨q',mm⟩) (fun q2=>?_) g
    · by_cases hb:b=e
      · subst hb
        exact r.elim fun o r=>r.elim fun vs0 r=>⟨_,vs',ge',rfl,rfl,h2.trans (Data.fields.inj (((congrArg Obj.data (Option.some.inj (ge.symm.trans r.1))).trans r.2.2.1)) ▸ r.2.2.2)⟩
      · exact r.imp fun o r=>r.imp fun vs0 r=>⟨kd b o r.1 hb (.cls r.2.1) (fun _ _ q=>nomatch r.2.2.1.symm.trans q),r.2⟩
    · by_cases hb:b=e
      · subst hb
        have hij:=rho_inj z ei e2
        subst hij
        rw [Option.some.inj (e1.symm.trans q.1)]
        exact q.2.1.rec fun {vs0 t tok n} g1 r0 r2 gt nt=>by
          have hv:vs=vs0:=Data.fields.inj (congrArg Obj.data (Option.some.inj (ge.symm.trans g1)))
          subst hv
          exact .mk ge' (h0.trans r0) (h2.trans r2) (kd t _ gt (fun q=>nt (q ▸ .inl me)) (.cls (T:="tuple") rfl) nofun) nt
      · exact z.okept kb XOk.nil e1 e2 fun o g=>ko b o (.inl (List.mem_of_getElem? e2)) hb g
    · exact (z.tab P q' mm).elim fun _ t=>by
        rw [q2,ge] at t
        exact nomatch congrArg Obj.cls (Option.some.inj t.1)
noncomputable def FrIn (x:Wd) (h:Heap) (A:Around) (env:Env):Prop:=∃ e₀ outer,A.frames=some (e₀ :: outer)∧e₀.frame=env.frame∧FrOk x h (e₀ :: outer)
theorem FrOk.fun {x:Wd} {h:Heap}:∀ {l:List Env},FrOk x h l→h.FunFrames {} l
  | [],_=>trivial
  | env :: r,f=>⟨(f env (.head _)).1,(f env (.head _)).2.elim fun L q=>q.2.2.2.elim fun o d=>⟨L,o,q.1,Heap.get?_none_of_le (Nat.zero_le _),d.1,fun vs q=>d.2.elim fun _ d=>d.elim fun _ d=>nomatch d.symm.trans q⟩,FrOk.fun fun env' m=>f env' (.tail _ m)⟩
theorem FrOk.at {h:Heap} {l:List Env} (f:FrOk x h l) {b:Addr} (hb:b∈l.filterMap (·.frame)):179≤b∧¬ x.own b∧DictAt h b:=
  (List.mem_filterMap.mp hb).elim fun env q=>(f env q.1).2.elim fun L f=>Option.some.inj (f.1.symm.trans q.2) ▸ f.2
theorem Ready.frIn (p:Ready c l H x s A env):FrIn x s.heap A env∧∃ L,env.frame=some L:=
  p.r.fr.elim fun e₀ q=>q.elim fun outer q=>p.a.frames.elim fun l f=>⟨⟨e₀,outer,q.1,q.2.1,Option.some.inj (f.1.symm.trans q.1) ▸ f.2⟩,Option.isSome_iff_exists.mp q.2.2⟩
theorem FrIn.step (st:Step [] x s y t) (f:FrIn x s.heap A env):FrIn y t.heap A env:=f.imp fun _ f=>f.imp fun _ f=>⟨f.1,f.2.1,f.2.2.step st fun _ m=>nomatch m⟩
theorem entry_wp (z:Rl g x H s) (fr:FrIn x s.heap A env) {L:Addr} (hf:env.frame=some L) (ei:x.ρ[i]? = some e) (ge:s.heap.get? e=some oe) (hd:oe.data = .fields vs) (hsz:1 < vs.size) {head:Value} {b:Bool}
    (h:∀ t,Rl g x H t→Step [] x s x t→FlyAt (rawInt L) t.heap e→Q () t) :
    wpAny g.M A (do setField (.ref e) 1 (←EntryCells.newEntry head (←PySem.frameOf env) .none (rawInt L) .none (←entryPlaceOf L b))) Q E s:=
  fr.elim fun e₀ fr=>fr.elim fun outer fr=>(z.excOf ei ge hd).elim fun _ q=>by
    have hx:=q.2.2
    subst hx
    refine wpAny_bind ?_
    unfold PySem.frameOf
    refine wpAny_bind (wpAny_frameEnvs fr.1 ?_)
    rw [show ((e₀ :: outer).dropWhile fun y=>y.frame != env.frame)=e₀ :: outer by rw [List.dropWhile_cons,fr.2.1,bne_self_eq_false];rfl]
    unfold frameObject
    refine wpAny_bind (wpAny_bind (wpAny_readyFrames_fun fr.2.2.fun fun h₁ hs₁=>wpAny_pure ?_))
    rw [fr.2.1,hf]
    refine wpAny_pure (wpAny_bind (wpAny_entryPlaceOf fun pl hpl=>?_))
    unfold EntryCells.newEntry newFields
    refine wpAny_bind (wpAny_newObj_type ?_ (hpl.sizeOk5 _ _ _ _ _))
    have me:=List.mem_of_getElem? ei
    have he₁:h₁.get? e=some (excOb vs):=(hs₁.2.1 e fun hm=>(fr.2.2.at hm).2.1 (.inl me)).trans ge
    generalize hT:([head,.ref L,.none,rawInt L,.none]++(if pl.isEmpty then List.replicate 6 Value.none else pl)).toArray=ts
    have he₂:=Heap.get?_push_of_some (h:=h₁) { cls:=.type "traceback",dict:=none,data:=.fields ts } he₁
    refine wpAny_setField he₂ rfl hsz ?_
    have hTe:h₁.objs.size≠e:=Nat.ne_of_gt (Heap.lt_size he₁)
    have ge':=Heap.get?_update_self (Obj.mapFields (·.setIfInBounds 1 (Value.ref h₁.objs.size))) he₂ rfl
    have up:∀ b o',b≠e→h₁.get? b=some o'→((h₁.push { cls:=.type "traceback",dict:=none,data:=.fields ts }).update e (Obj.mapFields (·.setIfInBounds 1 (Value.ref h₁.objs.size)))).get? b=some o':=fun b o' ne g' =>
      (Heap.get?_update_other _ _ (Ne.symm ne)).trans (Heap.get?_push_of_some _ g')
    have zz:=z.exc1 ei ge hd (h':=(h₁.push { cls:=.type "traceback",dict:=none,data:=.fields ts }).update e (Obj.mapFields (·.setIfInBounds 1 (Value.ref h₁.objs.size)))) (vs':=vs.setIfInBounds 1 (Value.ref h₁.objs.size)) ge'
      (Array.getElem?_setIfInBounds_ne (by decide)) (Array.getElem?_setIfInBounds_ne (by decide))
      (fun b o g=>(hs₁.2.2 b o g).elim fun sl hsl=>if hbe:b=e then (by rw [hbe];exact ⟨_,ge'⟩) else ⟨_,up b _ hbe hsl⟩) fun b o g hbe nt =>
        if hm:b∈(e₀ :: outer).filterMap (·.frame) then
          have f:=fr.2.2.at hm
          .inr ⟨f.1,f.2.1,f.2.2.elim fun _ d=>Option.some.inj (d.1.symm.trans g) ▸ d.2,(hs₁.2.2 b o g).imp fun sl hsl=>up b _ hbe hsl⟩
        else .inl (up b _ hbe ((hs₁.2.1 b hm).trans g))
    exact h _ zz.1 zz.2 (.mk (T:=h₁.objs.size) (ts:=ts) ge' rfl (Array.getElem?_setIfInBounds_self_of_lt hsz) ((Heap.get?_update_other _ _ (Ne.symm hTe)).trans (Heap.get?_push_size h₁ rfl)) rfl rfl (hT ▸ rfl))
theorem mark_wp (z:Rl g x H s) (ei:x.ρ[i]? = some e) (ge:s.heap.get? e=some oe) (hd:oe.data = .fields vs) {T:Addr} (h1:vs[1]? = some (.ref T)) {oT:Obj} {ts:Array Value} (gT:s.heap.get? T=some oT) (hc:oT.cls = .type "traceback")
    (hdT:oT.data = .fields ts) {old:Value} (h3:ts[3]? = some old) {v:Value}
    (h:∀ t,Rl g x H t→Step [] x s x t→t.heap.get? e=some oe→FlyAt v t.heap e→Q () t):wpAny g.M A (setField (.ref T) 3 v) Q E s:=
  (z.excOf ei ge hd).elim fun _ q=>by
    have hx:=q.2.2
    subst hx
    have hsz:3 < ts.size:=(Array.getElem?_eq_some_iff.mp h3).1
    refine wpAny_setField gT hdT hsz ?_
    have hTe:T≠e:=fun q=>absurd (Value.type.inj (hc.symm.trans (congrArg Obj.cls (Option.some.inj (gT.symm.trans (q ▸ ge)))))) (by decide)
    have ke:∀ b o,b≠T→s.heap.get? b=some o→(s.heap.update T (Obj.mapFields (·.setIfInBounds 3 v))).get? b=some o:=fun b o hb g=>(Heap.get?_update_other _ _ (Ne.symm hb)).trans g
    have gT':=Heap.get?_update_self (Obj.mapFields (·.setIfInBounds 3 v)) gT (Obj.isFreed_of_fields (Obj.data_mapFields hdT _))
    have zz:=z.exc1 ei ge hd (h':=s.heap.update T (Obj.mapFields (·.setIfInBounds 3 v))) (vs':=vs) (ke e _ (Ne.symm hTe) ge) rfl rfl (Live.but ke ⟨_,gT'⟩) fun b o g hbe nt=>.inl (ke b o (fun q=>nt (Option.some.inj (gT.symm.trans (q ▸ g)) ▸ hc) _ (Option.some.inj (gT.symm.trans (q ▸ g)) ▸ hdT)) g)
    exact h _ zz.1 zz.2 (ke e _ (Ne.symm hTe) ge) (.mk (ke e _ (Ne.symm hTe) ge) rfl h1 gT' ((Obj.cls_mapFields ..).trans hc) (Obj.data_mapFields hdT _) (Array.getElem?_setIfInBounds_self_of_lt hsz))
theorem setFlight_wp (z:Rl g x H s) (ei:x.ρ[i]? = some e) {old:Value} (f:FlyAt old s.heap e) {fr:Option Addr}
    (h:∀ t,Rl g x H t→Step [] x s x t→FlyAt (fr.elim .none fun f=>rawInt f) t.heap e→Q () t):wpAny g.M A (setFlight (.ref e) fr) Q E s:=
  f.rec fun ge hd h1 gT hc hdT h3=>wpAny_bind (m:=field _ _) (wpAny_field ge hd h1 (wpIfPos rfl (mark_wp z ei ge hd h1 gT hc hdT h3 fun h' z' st _ f=>h h' z' st f)))
theorem note_wp (z:Rl g x H s) (fr:FrIn x s.heap A env) {L:Addr} (hf:env.frame=some L) (ei:x.ρ[i]? = some e) (f:FlightIn env s.heap e)
    (h:∀ t,Rl g x H t→Step [] x s x t→FlyAt (rawInt L) t.heap e→Q () t):wpAny g.M A (noteFrame (.ref e) env) Q E s:=by
  unfold noteFrame
  rw [hf]
  exact f.elim (fun f=>f.elim (fun f=>f.elim fun oe f=>f.elim fun vs f =>
      wpAny_bind (m:=field _ _) (wpAny_field f.1 f.2.1 f.2.2 (wpIfNeg (by decide) (entry_wp z fr hf ei f.1 f.2.1 (Array.getElem?_eq_some_iff.mp f.2.2).1 h))))
    fun f=>f.rec fun ge hd h1 gT hc hdT h3=>wpAny_bind (m:=field _ _) (wpAny_field ge hd h1 (wpIfPos rfl (wpAny_bind (m:=field _ _) (wpAny_field gT hdT h3 (wpIfNeg (by simp [rawInt])
      (wpAny_bind (mark_wp z ei ge hd h1 gT hc hdT h3 fun h' z' st ge' _=>entry_wp z' (fr.step st) hf ei ge' hd (Array.getElem?_eq_some_iff.mp h1).1 fun h'' z'' st'=>h h'' z'' (st.trW st')))))))))
    fun q=>q.elim fun L' q=>by
      have hL:=Option.some.inj (hf.symm.trans q.1)
      subst hL
      exact q.2.rec fun ge hd h1 gT hc hdT h3=>wpAny_bind (m:=field _ _) (wpAny_field ge hd h1 (wpIfPos rfl (wpAny_bind (m:=field _ _) (wpAny_field gT hdT h3 (wpIfPos (by simp) (wpAny_pure (h _ z (Step.refl _ _ _) q.2)))))))
theorem leaving_wp (z:Rl g x H s) (fr:FrIn x s.heap A env) {L:Addr} (hf:env.frame=some L) (ei:x.ρ[i]? = some e) (f:FlightIn env s.heap e)
    (h:∀ t,Rl g x H t→Step [] x s x t→FlyAt .none t.heap e→Q () t):wpAny g.M A (leaving env (.ref e)) Q E s:=
  wpAny_bind (m:=noteFrame _ _) (note_wp z fr hf ei f fun h1 z1 s1 f1=>setFlight_wp z1 ei f1 fun h2 z2 s2 f2=>h h2 z2 (s1.trW s2) f2)
theorem back_wp (z:Rl g x H s) {L:Addr} (hf:env.frame=some L) (ei:x.ρ[i]? = some e) (f:FlyAt (rawInt L) s.heap e)
    (h:∀ t,Rl g x H t→Step [] x s x t→FlyAt (rawInt L) t.heap e→E (.ref e) t):cameBackBy g.M A env E (.ref e) s:=
  f.rec fun ge hd h1 gT hc hdT h3=>wpAny_bind (m:=field _ _) (wpAny_field ge hd h1 (wpIfNeg Bool.false_ne_true (setFlight_wp z ei f fun h' z' st f=>h h' z' st (by rw [hf] at f;exact f))))
end
section
variable {c:Cx} {g:Gx} {x y:Wd} {H H1 H2 H3 H4:AHeap} {s t:Shared} {A:Around} {l l1 l2 l3:Loc} {env:Env} {Q:Post Flow} {E:Post Value} {e e1 e2 tg:Expr} {v v1 v2:AV} {nm:Str} {pos np ap:Pos} {i:Nat} {b o:List Stmt} {st:Stmt} {r:SOut} {xs vs:List AV} {es:List Expr}
theorem DoneS.exc (p:Ready c l H x s A env) {X:List Addr} (st:Step [] x s y t) (z:Rl c.g y H1 t) (d:DoneS c A env x s ⟨.exc i,l,H1⟩ Q E) {a:Addr} (ha:y.ρ[i]? = some a) (f:Flight t.heap a):E (.ref a) t:=d st.weak (p.step st z) ha (.inl f)
theorem st_expr (hs:∀ line env,swapsWith e none line env=pure false) (h:Ev c l H e v H1):St c l H (.Expr e pos) ⟨.next,l,H1⟩:=fun p _ _ d =>
  wpAny_Expr_any (h p fun s1 z1 _=>d s1.weak (p.step s1 z1)) (by unfold interactive;rw [p.r.b.kindE];rfl) (hs _ _)
theorem stx_expr (hs:∀ line env,swapsWith e none line env=pure false) (h:EvX c l H e i H1):St c l H (.Expr e pos) ⟨.exc i,l,H1⟩:=fun p _ _ d =>
  wpAny_Expr_any (h p fun s1 z1 ha f=>d s1.weak (p.step s1 z1) ha (.inl f)) (by unfold interactive;rw [p.r.b.kindE];rfl) (hs _ _)
theorem st_ret (h:Ev c l H e v H1):St c l H (.Return (some e) pos) ⟨.ret v,l,H1⟩:=fun p _ _ d=>wpAny_Return_some (h p fun s1 z1 r1=>d s1.weak (p.step s1 z1) r1)
theorem DoneS.mv0 (st:Step [] x s y t) (d:DoneS c A env x s r Q E):DoneS c A env y t r Q E:=d.mv st.weak
theorem st_if {q:Bool} (h:Ts c l H e q H1) (h2:Ex c l H1 (if q=true then b else o) r):St c l H (.If e b o pos) r:=fun p _ _ d=>wpAny_If (h p fun s1 z1 r1=>by
  subst r1
  cases q
  · exact h2 (p.step s1 z1) (d.mv0 s1)
  · exact h2 (p.step s1 z1) (d.mv0 s1))
theorem ex_nil:Ex c l H [] ⟨.next,l,H⟩:=fun p _ _ d=>wpAny_execs_nil (d (Step.refl _ _ _) p)
theorem ex_cons (h1:St c l H st ⟨.next,l1,H1⟩) (h2:Ex c l1 H1 b r):Ex c l H (st :: b) r:=fun p _ _ d=>wpAny_execs_cons (h1 p fun s1 p1=>h2 p1 (d.mv s1))
theorem ex_ret (h1:St c l H st ⟨.ret v,l1,H1⟩):Ex c l H (st :: b) ⟨.ret v,l1,H1⟩:=fun p _ _ d=>wpAny_execs_cons (h1 p d)
theorem ex_exc (h1:St c l H st ⟨.exc i,l1,H1⟩):Ex c l H (st :: b) ⟨.exc i,l1,H1⟩:=fun p _ _ d=>wpAny_execs_cons (h1 p d)
theorem Locals.sub {h:Heap} {L:Addr} (hl:∀ nm v,l1.lookup nm=some v→l.lookup nm=some v) (r:Locals x h l L):Locals x h l1 L:=r.imp fun _ r=>⟨r.1,fun nm v e=>r.2 nm v (hl nm v e)⟩
theorem Ready.sub (hl:∀ nm v,l1.lookup nm=some v→l.lookup nm=some v) (p:Ready c l H x s A env):Ready c l1 H x s A env:=
  ⟨p.z,⟨⟨p.r.b.scope,p.r.b.kind,p.r.b.qual,p.r.b.glob,p.r.b.blt,p.r.b.cells,p.r.b.ns.sub hl,p.r.b.lown,p.r.b.llow⟩,p.r.fr,p.r.code⟩,p.a⟩
theorem sub_app (l l2:Loc):∀ nm v,l.lookup nm=some v→(l++l2).lookup nm=some v:=fun nm v e=>by
  induction l with
  | nil=>exact nomatch e
  | cons p r ih =>
    rw [List.cons_append,look_cons]
    rw [look_cons] at e
    by_cases h:nm=p.1
    · rw [if_pos h] at e ⊢;exact e
    · rw [if_neg h] at e ⊢;exact ih e
theorem ex_weak (hl:∀ nm v,l2.lookup nm=some v→l1.lookup nm=some v) (h:Ex c l H b ⟨.next,l1,H1⟩):Ex c l H b ⟨.next,l2,H1⟩:=fun p _ _ d=>h p fun s1 p1=>d s1 (p1.sub hl)
noncomputable def envS (S:Scope):Env:={ scope:=S,locals:=0,globals:=0,cells:=[] }
theorem sole_env (tg e:Expr) (n:Nat) (r:EnvB x s.heap c.k l env):swapsWithSole [tg] e n env=swapsWithSole [tg] e n (envS c.k.scope):=r.scope ▸ rfl
theorem swap_env (tg e:Expr) (r:EnvB x s.heap c.k l env):swappedStores [tg] e env=swappedStores [tg] e (envS c.k.scope):=r.scope ▸ rfl
noncomputable abbrev One (t:Expr):Prop:=∀ env v,assignAll v ((assignEach [t] env).map (·.2))=assign t env v
theorem assign_wp (h0:swapsWithSole [tg] e pos.line (envS c.k.scope)=pure false) (p:Ready c l H x s A env) (h:wpAny c.M A (eval e env) (fun u t=>wpAny c.M A (swappedStores [tg] e (envS c.k.scope)) (fun q t=>wpAny c.M A (assignStores env u q ((assignEach [tg] env).map (·.2))) Q E t) E t) E s) :
    wpAny c.M A (exec (.Assign [tg] e pos) env) Q E s:=by
  rw [arm_exec_Assign,sole_env _ _ _ p.r.b,h0,swap_env _ _ p.r.b]
  exact wpAny_bind (wpAny_standAt (wpAny_bind (wpAny_pure (wpIfNeg Bool.false_ne_true (wpAny_bind (wpAny_mono h (fun _ _ h=>wpAny_bind h) fun _ _ h=>h))))))
theorem st_assign (h0:swapsWithSole [tg] e pos.line (envS c.k.scope)=pure false) (h1:swappedStores [tg] e (envS c.k.scope)=pure none) (ho:One tg) (h2:Ev c l H e v H1) (h3:As c l H1 tg v l1 H2):St c l H (.Assign [tg] e pos) ⟨.next,l1,H2⟩:=fun p _ _ d =>
  assign_wp h0 p (h1 ▸ h2 p fun s1 z1 r1=>wpAny_pure (wpAny_bind (m:=assignAll _ _) (ho _ _ ▸ h3 (p.step s1 z1) r1 fun s2 p2=>wpAny_pure (d (s1.trW s2) p2))))
theorem stx_assign (h0:swapsWithSole [tg] e pos.line (envS c.k.scope)=pure false) (h2:EvX c l H e i H1):St c l H (.Assign [tg] e pos) ⟨.exc i,l,H1⟩:=fun p _ _ d =>
  assign_wp h0 p (h2 p fun s1 z1 ha f=>d s1.weak (p.step s1 z1) ha (.inl f))
noncomputable def Sns (c:Cx) (l:Loc) (H:AHeap) (ns:List Str) (vs:List AV) (l':Loc) (H':AHeap):Prop:=
  ∀ {x s A env us},Ready c l H x s A env→VRs x vs us→∀ {Q:Post Unit} {E},OkL c A env x s l' H' Q→wpAny c.M A (assignInOrder (ns.map fun n=>bindName env n) us) Q E s
theorem sns_nil:Sns c l H [] [] l H:=fun p hu _ _ d=>hu.nil_ (P:=fun us=>wpAny _ _ (assignInOrder _ us) _ _ _) (wpAny_pure (d (Step.refl _ _ _) p))
theorem sns_cons {ns:List Str} (h1:Sn c l H nm v l1 H1) (h2:Sns c l1 H1 ns vs l2 H2):Sns c l H (nm :: ns) (v :: vs) l2 H2:=fun p hu _ _ d =>
  hu.cons_ (P:=fun us=>wpAny _ _ (assignInOrder _ us) _ _ _) fun u us r1 r2=>wpAny_bind (m:=holding us _) (wpAny_holding (wpAny_bindName (h1 p r1 fun s1 p1=>h2 p1 (r2.mono s1.le) fun s2 p2=>d (s1.trX s2) p2)))
theorem VRs.reverse {a:List AV} {v:List Value} (r:VRs x a v):VRs x a.reverse v.reverse:=by
  induction r with
  | nil=>exact .nil
  | cons p _ q=>rw [List.reverse_cons,List.reverse_cons];exact q.append (.cons p .nil)
theorem st_swap {names:List Str} (h0:swapsWithSole [tg] e pos.line (envS c.k.scope)=pure false) (h1:swappedStores [tg] e (envS c.k.scope)=pure (some names)) (h2:Ev c l H e (.ob i) H1) (h:H1[i]? = some (.tup xs)) (hl:xs.length=names.length) (h3:Sns c l H1 names.reverse xs.reverse l1 H2) :
    St c l H (.Assign [tg] e pos) ⟨.next,l1,H2⟩:=fun p _ _ d =>
  assign_wp h0 p (h1 ▸ h2 p fun s1 z1 r1=>wpAny_pure (z1.tup h r1 (P:=fun u=>wpAny _ _ (assignStores _ u _ _) _ _ _) fun a us m ea g1 q1 =>
    have p1:=p.step s1 z1
    wpAny_bind (m:=PySem.rule _) (wpAny_rule (wpAny_bind (m:=unpackItems _ _ _) ((hl.symm.trans q1.length) ▸ unpack_tuple p1.a.held (isTuple g1) fun h' k hz =>
      have zz:=z1.stay k
      wpAny_bind (m:=assignInOrder _ _) (h3 (p1.step zz.2 zz.1) q1.reverse fun s2 p2=>wpAny_pure (d ((s1.trW zz.2).trW s2) p2)))))))
theorem iadd_int {a b':Int} {u w:Value} {Q:Post Value} (z:Rl g x H s) (r1:VR x (.int a) u) (r2:VR x (.int b') w) (d:Ok g VR x s (.int (a+b')) H Q):wpAny g.M A (inplaceOp .Add u w) Q E s:=
  intsP r1 r2 (P:=fun u v=>wpAny _ _ (inplaceOp .Add u v) _ _ _) fun _ _ _ _=>Mine.AutoIntOps.iadd_0 (d.int z)
theorem st_aug {a b':Int} (hk:locQ c.k nm=true) (hl:l.lookup nm=some (.int a)) (h2:Ev c l H e (.int b') H1):St c l H (.AugAssign (.Name nm np) .Add e pos) ⟨.next,upd nm (.int (a+b')) l,H1⟩:=fun p _ _ d =>
  p.r.b.ns.elim fun _ n=>(n.2 nm _ hl).elim fun _ m=>wpAny_AugAssign_Name (wpAny_loadName_local p.r.b.kindE ((p.r.b.kof nm).trans (eq_of_beq (and2 hk).1)) n.1 m.1 (h2 p fun s1 z1 r1 =>
    iadd_int z1 (m.2.mono s1.le) r1 fun s2 z2 r2=>SnB.up (sn_loc (eq_of_beq (and2 hk).1)) (p.step (s1.trW s2) z2) r2 fun s3 p3=>d ((s1.trW s2).trW s3) p3))
theorem st_augsub {a b' k:Int} (hi:∀ ov iv new,augStore e2 ov iv new=(do holding [new,ov,iv] (setItem ov iv new);release [new,ov,iv] [];pure .next)) (h1:Ev c l H e1 (.ob i) H1) (h2:Ev c l H1 e2 (.int k) H2) (hx:H2[i]? = some (.list xs)) (k0:0≤k) (k1:k < 2 ^ 63) (ex:xs[k.toNat]? = some (.int a))
    (h3:Ev c l H2 e (.int b') H3) (h4:SetI c.g H3 (.ob i) (.int k) (.int (a+b')) H4):St c l H (.AugAssign (.Subscript e1 e2 np) .Add e pos) ⟨.next,l,H4⟩:=fun p _ _ d =>
  wpAny_AugAssign_SubscriptAny (h1 p fun s1 z1 r1=>h2 (p.step s1 z1) fun s2 z2 r2=>have r1':=r1.mono s2.le
    r1'.elim fun ad q1=>(z2.obj i _ ad hx q1.1).elim fun us o=>o.elim fun m o=>r2.elim fun tk q=>(o.2.get ex).elim fun w hw=>q.2 ▸ q1.2 ▸ wpAny_getItem_list (isList o.1) k0 k1 (List.getElem?_toArray.trans hw.1)
      (h3 (p.step (s1.trW s2) z2) fun s3 z3 r3=>iadd_int z3 (hw.2.mono s3.le) r3 fun s4 z4 r4=>h4 z4 (VR.mono (a:=.ob i) (Wd.le_trans s3.le s4.le) ⟨ad,q1.1,rfl⟩) (VR.mono (a:=.int k) (Wd.le_trans s3.le s4.le) ⟨tk,q.1,rfl⟩) r4 fun s5 z5 =>
        d ((((s1.trW s2).trW s3).trW s4).trW s5).weak (p.step ((((s1.trW s2).trW s3).trW s4).trW s5) z5))) hi
end
theorem filter_lookup {n k:Str}:∀ {l:Loc},(l.filter fun p=>p.1 != n).lookup k=if k=n then none else l.lookup k
  | []=>by rw [List.filter_nil];split <;> rfl
  | (j, v) :: r=>by
    rw [look_cons]
    by_cases hj:j=n
    · rw [List.filter_cons_of_neg (by rw [hj,bne_self_eq_false];decide),filter_lookup,hj]
      by_cases hk:k=n
      · rw [if_pos hk,if_pos hk]
      · rw [if_neg hk,if_neg hk,if_neg hk]
    · rw [List.filter_cons_of_pos (p:=fun p:Str × AV=>p.1 != n) (bne_iff_ne.mpr hj),look_cons,filter_lookup]
      by_cases hk:k=j
      · rw [if_pos hk,if_pos hk,if_neg fun q=>hj (hk.symm.trans q)]
      · rw [if_neg hk,if_neg hk]
section
variable {c:Cx} {g:Gx} {x y:Wd} {H H1 H2 H3 H4:AHeap} {s t:Shared} {A:Around} {l l1 l2 l3:Loc} {env:Env} {Q:Post Flow} {E:Post Value} {e e1 e2 tg:Expr} {v v1 v2:AV} {nm k:Str} {pos np ap kp mp cp:Pos} {i q:Nat} {b o:List Stmt} {st:Stmt} {r:SOut} {m:Str}
theorem st_raise (hk:globQ c.k "ValueError" = true) (hd:c.k.hd=false):St c l H (.Raise (some (.Call (.Name "ValueError" kp) [.Constant (.str m) q mp] [] cp)) none pos) ⟨.exc H.length,l,H++[.exc m]⟩:=fun {x s A env} p _ _ d=>by
  have hc:A.handled=none:=(hd ▸ p.a).calm
  refine up (wpAny_Raise_call PySem.F.excCall_ValueError PySem.F.excRaise_ValueError hc rfl ?_)
  have q2:=and2 hk
  refine p.z.tp.ns.elim fun _ n=>n.elim fun _ n=>PySem.wpAny_Name ((loadName_read p.r.b.kindE ((p.r.b.kof _).trans (eq_of_beq q2.1))).symm ▸ PySem.Calls.loadGlobal_builtin (p.r.b.glob ▸ n.1) (n.2.2.2.1 "ValueError" (false,"ValueError") (by kernel_rfl)).1 (p.r.b.blt ▸ n.2.1) (n.2.2.2.1 "ValueError" (false,"ValueError") (by kernel_rfl)).2 ⟨rfl,?_⟩) q2.2
  show PySem.wpAny _ A (evalArgs (.type "ValueError") true (plainArgs [.Constant (.str m) q mp] env) []) _ _ _
  refine PySem.Calls.evalArgs_plain (PySem.Calls.spliced_cons (PySem.wpAny_Constant_str ?_))
  show PySem.wpAny _ A (spliced []) _ _ _
  refine PySem.wpAny_pure ⟨rfl,Nat.le_trans (by decide:1≤1000) bigLine,fun h' e mk=>mk.there.elim fun t q=>?_⟩
  have tn:s.heap.get? t=none:=q.2.1
  have hto:¬ (x.add e).own t:=fun r=>(add_own r).elim (fun r=>(p.z.fresh tn) r) fun r=>by
    rw [r,q.1] at q
    exact absurd (Value.type.inj (congrArg Obj.cls (Option.some.inj q.2.2))) (by decide)
  have zz:=p.z.add (h':=h') (tk:=s.toks+1) (a:=e) (o:=.exc m) mk.keeps mk.new (.mk q.1 rfl rfl q.2.2 hto)
  exact d zz.2.weak (p.step zz.2 zz.1) (p.z.get e) (.inl (.inl ⟨_,_,q.1,rfl,rfl⟩))
theorem gone_wp (p:Ready c l H x s A env) (hl:c.k.scope.names.lookup k=some .local) {Q:Post Unit} (h:OkL c A env x s (l.filter fun p=>p.1 != k) H Q):wpAny c.M A (do bindName env k .none;unbindBehindTheSuite env k pos) Q E s:=by
  have hl':env.kindOf k=some .local:=(p.r.b.kof k).trans hl
  refine p.r.b.ns.elim fun m n=>wpAny_bind (wpAny_bindName (wpAny_storeName_local hl' n.1 (fun h₁ hn₁ hs₁=>wpAny_onRaise (wpAny_bind (m:=point) (wpAny_point (wpAny_bind ?_)))) (clsF p.r.b)))
  unfold deleteName
  rw [hl']
  refine wpIfNeg (by rw [clsF p.r.b];decide) (wpAny_bind (m:=nsDel _ _) (wpAny_nsDel_keeps (s:={ s with heap:=h₁,toks:=s.toks+1 }) hn₁ fun h₂ u hn₂ hs₂=>?_))
  refine wpIfNeg (by rw [if_pos rfl];decide) (wpAny_pure (wpAny_point ?_))
  have hs:=hs₁.trans hs₂
  have zz:=p.z.frame p.r.b (h':=h₂) (tk:=s.toks+1) hs.2 (Ns.dict hn₂) (Nat.le_succ _)
  refine h zz.2 (p.sn zz.2 zz.1 ⟨p.r.b.scope,p.r.b.kind,p.r.b.qual,p.r.b.glob,p.r.b.blt,p.r.b.cells,⟨_,hn₂,fun j av e=>?_⟩,p.r.b.lown,p.r.b.llow⟩)
  rw [filter_lookup] at e
  by_cases hj:j=k
  · rw [if_pos hj] at e;exact nomatch e
  · rw [if_neg hj] at e
    exact (n.2 j av e).imp fun y q=>⟨by simp [hj,q.1],q.2⟩
noncomputable def Cx.held (c:Cx):Cx:=⟨c.g,c.n,⟨c.k.scope,c.k.qual,c.k.cells,true,c.k.lam⟩⟩
theorem st_try_ok {hs:List ExceptHandler} {h0:ExceptHandler} (h:Ex c l H b ⟨.next,l1,H1⟩):St c l H (.Try b (h0 :: hs) [] [] pos) ⟨.next,l1,H1⟩:=fun p _ _ d =>
  wpAny_Try_except (h p fun s1 p1=>wpAny_execs_nil (d s1 p1))
theorem st_try (hk:globQ c.held.k "ValueError" = true) (hl:c.k.scope.names.lookup nm=some .local) (h:Ex c l H b ⟨.exc i,l1,H1⟩) (h2:Ex c.held (upd nm (.ob i) l1) H1 (st :: o) ⟨.next,l2,H2⟩) :
    St c l H (.Try b [.ExceptHandler (some (.Name "ValueError" kp)) (some nm) (st :: o) np] [] [] pos) ⟨.next,l2.filter fun p=>p.1 != nm,H2⟩:=fun {x s A env} p Q E d =>
  wpAny_Try_except (h p fun {y t e} s1 p1 hi hf=>p1.frIn.elim fun fr hL=>hL.elim fun L hL=>note_wp p1.z fr hL hi hf fun t2 z2 s2 f2=>setFlight_wp z2 hi f2 fun t3 z3 s3 f3=>f3.rec fun ge gd _ _ _ _ _=>(z3.excOf hi ge gd).elim fun m xr=>by
    have s23:=s2.trW s3
    have p3:=p1.step s23 z3
    have p4:Ready c.held l1 H1 y t3 (A.mark (some (.ref e))) env:=⟨z3,⟨⟨p3.r.b.scope,p3.r.b.kind,p3.r.b.qual,p3.r.b.glob,p3.r.b.blt,p3.r.b.cells,p3.r.b.ns,p3.r.b.lown,p3.r.b.llow⟩,p3.r.fr,p3.r.code⟩,
      ⟨p3.a.depth,p3.a.units,.inr ⟨rfl,e,rfl,xr.2.1.rec fun g1 _ r2 _ _=>⟨_,_,g1,rfl,rfl,r2⟩⟩,p3.a.frames⟩⟩
    refine wpAny_handleBy_builtin_as (X:="ValueError") (T:="ValueError") (b:=true) PySem.F.excRaise_ValueError.isExc (by rw [isSubtype_type];kernel_rfl) (by rw [isSubtype_type];kernel_rfl) (p4.z.tp.ns.elim fun _ n=>n.elim fun _ n=>global_wp p4.r.b hk
      (loadGlobal_builtin (p4.r.b.glob ▸ n.1) (n.2.2.2.1 "ValueError" (false,"ValueError") (by kernel_rfl)).1 (p4.r.b.blt ▸ n.2.1) (n.2.2.2.1 "ValueError" (false,"ValueError") (by kernel_rfl)).2 ⟨rfl,⟨_,ge,congrArg Obj.cls xr.2.2⟩,(if_pos rfl).mpr (setFlight_wp z3 hi f3 fun t5 z5 s5 f5=>?_)⟩))
    refine SnB.up (c:=c.held) (sn_loc (k:=c.held.k) hl) (p4.step s5 z5) (v:=.ob i) ⟨e,hi,rfl⟩ fun s6 p6=>h2 p6 fun s7 p7=>?_
    have s8:=((s1.trV (s23.trW s5)).trX s6).trX s7
    exact gone_wp (p.stepF s8 p7.z ⟨⟨p7.r.b.scope,p7.r.b.kind,p7.r.b.qual,p7.r.b.glob,p7.r.b.blt,p7.r.b.cells,p7.r.b.ns,p7.r.b.lown,p7.r.b.llow⟩,p7.r.fr,p7.r.code⟩) hl fun s9 p9=>d (s8.trX s9) p9)
end
inductive AIter where
  | list (i:Nat) (k:Nat)
  | tup (i:Nat) (k:Nat)
  | range (cur:Int) (step:Int) (n:Nat)
  | bytes (xs:List Int)
  | enum (i:Nat) (j:Nat)
noncomputable def Itr (x:Wd) (h:Heap):AIter→Value→List Addr→Prop
  | .list i k,v,I=>∃ it a,v = .ref it∧I=[it]∧x.ρ[i]? = some a∧h.IsListIter it a k
  | .tup i k,v,I=>∃ it a,v = .ref it∧I=[it]∧x.ρ[i]? = some a∧h.IsTupleIter it a k
  | .range cur st m,v,I=>∃ it,v = .ref it∧I=[it]∧IsRangeIter h it cur m st
  | .bytes xs,v,I=>∃ it,v = .ref it∧I=[it]∧∃ b t k,KBw.IsBytesIter h it b t k∧(b.toList.map fun c=>(c.toNat:Int)).drop k=xs
  | .enum i j,v,I=>∃ it e,v = .ref e∧I=[e,it]∧e≠it∧∃ a old,x.ρ[i]? = some a∧IsEnum h e it j old∧h.IsListIter it a j
noncomputable def Rec1 (h:Heap) (l:Addr):Prop:=∃ o,h.get? l=some o∧(∃ vs,o.data = .fields vs)∧o.cls ≠ .type "code"∧o.cls ≠ .type "traceback"∧o.cls ≠ .type "ValueError"
theorem rec1 {h:Heap} {l:Addr} {o:Obj} {T:String} {vs:Array Value} (e:h.get? l=some o) (hd:o.data = .fields vs) (hc:o.cls = .type T) (h1:T ≠ "code":=by decide) (h2:T ≠ "traceback":=by decide) (h3:T ≠ "ValueError":=by decide):Rec1 h l:=
  ⟨o,e,⟨vs,hd⟩,hc ▸ ne_code h1,hc ▸ ne_code h2,hc ▸ ne_code h3⟩
section
variable {c:Cx} {g:Gx} {x x₀ y:Wd} {H H1 H2 H3 H4:AHeap} {s s₀ t:Shared} {A:Around} {l l1 l2 l3:Loc} {env:Env} {E:Post Value} {e e1 e2 tg:Expr} {v v1 v2:AV} {nm:Str} {pos np ap:Pos} {i j k:Nat} {b o:List Stmt} {r:SOut} {xs vs:List AV} {es:List Expr} {it it':AIter} {u:Value} {I:List Addr} {h h':Heap}
theorem listIter_rec {a:Addr} {q:Addr} (h1:h.IsListIter q a k):Rec1 h q:=h1.elim fun o h1=>rec1 h1.1 h1.2.2 h1.2.1
theorem Itr.recs (r:Itr x h it u I):∀ l∈I,Rec1 h l:=by
  cases it with
  | list i k=>exact r.elim fun q r=>r.elim fun a r=>r.2.1 ▸ fun l m=>List.mem_singleton.mp m ▸ listIter_rec r.2.2.2
  | tup i k=>exact r.elim fun q r=>r.elim fun a r=>r.2.1 ▸ fun l m=>List.mem_singleton.mp m ▸ r.2.2.2.elim fun o h1=>rec1 h1.1 h1.2.2 h1.2.1
  | range cur st m'=>exact Exists.elim r fun q (r:u = .ref q∧I=[q]∧IsRangeIter h q cur m' st)=>r.2.1 ▸ fun l m=>List.mem_singleton.mp m ▸ rec1 r.2.2 rfl rfl
  | bytes xs=>exact Exists.elim r fun q (r:u = .ref q∧I=[q]∧∃ b t k,KBw.IsBytesIter h q b t k∧(b.toList.map fun c=>(c.toNat:Int)).drop k=xs)=>r.2.1 ▸ fun l m=>List.mem_singleton.mp m ▸ r.2.2.elim fun b r=>r.elim fun t r=>r.elim fun k r=>r.1.elim fun o h1=>rec1 h1.1 h1.2.2 h1.2.1
  | enum i j=>exact r.elim fun q r=>r.elim fun e r=>r.2.1 ▸ fun l m=>r.2.2.2.elim fun a d=>d.elim fun old d=>(List.mem_cons.mp m).elim (fun m=>m ▸ rec1 d.2.1 rfl rfl) fun m=>List.mem_singleton.mp m ▸ listIter_rec d.2.2
theorem Itr.own (le:x.ρ <+: y.ρ) (kp:∀ l∈I,∀ o,h.get? l=some o→h'.get? l=some o) (r:Itr x h it u I):Itr y h' it u I:=by
  cases it with
  | list i k=>exact r.imp fun q r=>r.imp fun a r=>⟨r.1,r.2.1,prefix_get le r.2.2.1,r.2.2.2.imp fun o w=>⟨kp q (r.2.1 ▸ List.mem_singleton_self q) o w.1,w.2⟩⟩
  | tup i k=>exact r.imp fun q r=>r.imp fun a r=>⟨r.1,r.2.1,prefix_get le r.2.2.1,r.2.2.2.imp fun o w=>⟨kp q (r.2.1 ▸ List.mem_singleton_self q) o w.1,w.2⟩⟩
  | range cur st m'=>exact Exists.imp (p:=fun q=>u = .ref q∧I=[q]∧IsRangeIter h q cur m' st) (fun q r=>⟨r.1,r.2.1,kp q (r.2.1 ▸ List.mem_singleton_self q) _ r.2.2⟩) r
  | bytes xs=>exact Exists.imp (p:=fun q=>u = .ref q∧I=[q]∧∃ b t k,KBw.IsBytesIter h q b t k∧(b.toList.map fun c=>(c.toNat:Int)).drop k=xs) (fun q r=>⟨r.1,r.2.1,r.2.2.imp fun b w=>w.imp fun t w=>w.imp fun k w=>⟨w.1.imp fun o w=>⟨kp q (r.2.1 ▸ List.mem_singleton_self q) o w.1,w.2⟩,w.2⟩⟩) r
  | enum i j=>exact r.imp fun q r=>r.imp fun e r=>⟨r.1,r.2.1,r.2.2.1,r.2.2.2.imp fun a d=>d.imp fun old d=>⟨prefix_get le d.1,kp e (r.2.1 ▸ List.mem_cons_self) _ d.2.1,d.2.2.imp fun o w=>⟨kp q (r.2.1 ▸ List.mem_cons_of_mem _ (List.mem_singleton_self q)) o w.1,w.2⟩⟩⟩
structure Lp (c:Cx) (l:Loc) (H:AHeap) (x₀:Wd) (s₀:Shared) (x:Wd) (s:Shared) (A:Around) (env:Env) (it:AIter) (u:Value) (I:List Addr):Prop where
  p : Ready c l H x s A env
  st:Step [env.locals] x₀ s₀ x s
  r : Itr x s.heap it u I
  new:∀ l∈I,s₀.heap.get? l=none∧179≤l∧¬ x.own l
theorem Rec1.ne {L:Addr} (r:Rec1 h L):¬ DictAt h L:=fun d=>r.elim fun _ r=>d.elim fun _ d=>by
  rw [r.1] at d
  have e:=Option.some.inj d.1
  subst e
  exact d.2.elim fun _ q=>q.elim fun _ q=>r.2.1.elim fun _ w=>nomatch w.symm.trans q
theorem Lp.mv (q:Lp c l H x₀ s₀ x s A env it u I) (st:Step [env.locals] x s y t) (p:Ready c l1 H1 y t A env):Lp c l1 H1 x₀ s₀ y t A env it u I:=
  ⟨p, q.st.trX st,q.r.own st.le.1 (fun l m o e=>(q.r.recs l m).elim fun o' w=>have eo:=Option.some.inj (w.1.symm.trans e)
      (st.keep l o e (q.new l m).2.2 (fun w=>(q.r.recs l m).ne (q.p.locD l w)) (fun w'=>absurd w' (eo ▸ w.2.2.2.1))).elim id fun w'=>w'.2.1.elim fun _ w'=>w'.elim fun _ w'=>w.2.1.elim fun _ w=>nomatch (eo ▸ w).symm.trans w'),
    fun l m=>⟨(q.new l m).1,(q.new l m).2.1,(q.r.recs l m).elim fun _ w=>st.old w.1 (q.new l m).2.2⟩⟩
theorem Lp.nx (q:Lp c l H x₀ s₀ x s A env it u I) (hc:c.k.hd=false) (kp:∀ b o,b∉I→s.heap.get? b=some o→h'.get? b=some o) {tk:Nat} (ht:s.toks≤tk) :
    Step [env.locals] x₀ s₀ x { s with heap:=h',toks:=tk }∧Ready c l H x { s with heap:=h',toks:=tk } A env:=
  have rc:=q.r.recs
  have z:=q.p.z
  have xo:XOk s.heap I:=fun l m=>⟨(q.new l m).2.1,(rc l m).imp fun _ w=>⟨w.1,.inr ⟨w.2.1,w.2.2.1⟩⟩⟩
  have kb:KeepB x I s.heap h':=fun b o e _ hm _=>.inl (kp b o hm e)
  have ni:∀ {b o},s₀.heap.get? b=some o→b∉I:=fun e m=>nomatch (q.new _ m).1.symm.trans e
  have dk:∀ L,DictAt s.heap L→DictAt h' L:=fun L d=>d.imp fun o w=>⟨kp L o (fun m=>(rc L m).ne d) w.1,w.2⟩
  have b:=q.p.r.b
  ⟨⟨q.st.same.elim fun _ w=>w.elim fun _ w=>⟨h',tk,by rw [w]⟩,q.st.le,fun b o e=>(q.st.size b o e).imp fun o' e'=>kp b o' (ni e) e',q.st.new,fun b o e no hm nt=>(q.st.keep b o e no hm nt).imp (kp b o (ni e)) fun w=>⟨w.1,w.2.1,w.2.2.imp fun _ w=>kp b _ (ni e) w⟩,
      fun e he=>(q.st.exc e he).own fun o=>kp e o (he.elim fun _ w=>w.elim fun _ w=>ni w.1)⟩,
    ⟨z.gens,Nat.lt_of_lt_of_le z.pos ht,fun p m=>⟨(z.tok p m).1,Nat.lt_of_lt_of_le (z.tok p m).2 ht⟩,z.tfun,z.kfun,z.topKept xo kb,z.base,z.len,z.nd,z.low,fun i o a e1 e2=>z.okept kb xo e1 e2 fun o=>kp a o fun m=>(q.new a m).2.2 (.inl (List.mem_of_getElem? e2)),
      fun P w m=>(z.tab P w m).at (fun _ h=>h) (fun o=>kp P o fun m'=>(q.new P m').2.2 (.inr ⟨w,m⟩)) (kb.code z xo),fun a ha=>(z.alive a ha).imp fun o=>kp a o fun m=>absurd (q.new a m).2.1 (Nat.not_le.mpr ha)⟩,
    ⟨⟨b.scope,b.kind,b.qual,b.glob,b.blt,b.cells,b.ns.imp fun m n=>⟨n.1.imp fun o w=>w.imp fun es w=>w.imp fun ep w=>⟨kp _ o (fun m=>(rc _ m).ne b.ns.dict) w.1,w.2⟩,n.2⟩,b.lown,b.llow⟩,q.p.r.fr,fun w=>code_step x.le_refl (kb.code z xo) (q.p.r.code w)⟩,
    ⟨q.p.a.depth,q.p.a.units,.inl ((hc ▸ q.p.a).calm),q.p.a.frames.imp fun _ f=>⟨f.1,fun env' m=>(f.2 env' m).imp id fun f=>f.imp fun L f=>⟨f.1,f.2.1,f.2.2.1,dk L f.2.2.2⟩⟩⟩⟩
noncomputable def End (c:Cx) (H:AHeap) (it:AIter):Prop:=
  ∀ {l x₀ s₀ x s A env u I},c.k.hd=false→Lp c l H x₀ s₀ x s A env it u I→∀ {Q:Post (Option Value)} {E},(∀ {t},Step [env.locals] x₀ s₀ x t→Ready c l H x t A env→Q none t)→wpAny c.M A (pyNext u) Q E s
noncomputable def Turn (c:Cx) (l:Loc) (H:AHeap) (tg:Expr) (it:AIter) (l1:Loc) (H1:AHeap) (it':AIter):Prop:=
  ∀ {x₀ s₀ x s A env u I},c.k.hd=false→Lp c l H x₀ s₀ x s A env it u I→∀ {Q:Post (Option Value)} {E},(∀ {w t},(∀ {Q':Post Unit} {E'},(∀ {y t'},x.le y→Lp c l1 H1 x₀ s₀ y t' A env it' u I→Q' () t') →
    wpAny c.M A (letOwnedTupleGo tg u w) (fun _ t'=>wpAny c.M A (assign tg env w) Q' E' t') E' t)→Q (some w) t)→wpAny c.M A (pyNext u) Q E s
noncomputable def Go (g:Gx) (tg:Expr) (T:String):Prop:=∀ {s:Shared} {A r o w} {Q:Post Unit} {E},s.heap.get? r=some o→o.cls = .type T→Q () s→wpAny g.M A (letOwnedTupleGo tg (.ref r) w) Q E s
theorem go_name {T:String}:Go g (.Name nm np) T:=fun _ _ h=>wpAny_pure h
theorem go_tup {T:String} (hT:["enumerate","zip","dict_itemiterator","dict_reverseitemiterator","odict_iterator","itertools.zip_longest","itertools.pairwise"].contains T=false):Go g (.Tuple es i np) T:=fun {s A r o w Q E} ho hc h=>by
  unfold letOwnedTupleGo
  cases w <;> first | exact wpAny_pure h | skip
  refine wpAny_bind (wpAny_load ho ?_)
  rw [hc]
  cases o.data <;> first | exact wpAny_pure h | (dsimp only;rw [hT];exact wpAny_pure h)
theorem ne1 {q b:Addr} (e:I=[q]) (m:b∉I):b≠q:=fun w=>m (e ▸ w ▸ List.mem_singleton_self q)
theorem Lp.at (q:Lp c l H x₀ s₀ x s A env it u I) (hc:c.k.hd=false) (kp:∀ b o,b∉I→s.heap.get? b=some o→h'.get? b=some o) {tk:Nat} (ht:s.toks≤tk) (r':Itr x h' it' u I):Lp c l H x₀ s₀ x { s with heap:=h',toks:=tk } A env it' u I:=
  have z:=q.nx hc kp ht
  ⟨z.2,z.1,r',q.new⟩
theorem Lp.end (q:Lp c l H x₀ s₀ x s A env it u I) (hc:c.k.hd=false) {a:Addr} (ma:a∈I) (ke:Heap.ExtBut a s.heap h') {Q:Post (Option Value)} (d:∀ {t},Step [env.locals] x₀ s₀ x t→Ready c l H x t A env→Q none t):Q none { s with heap:=h' }:=
  have z:=q.nx hc (tk:=s.toks) (fun b o m e=>ke b o (fun w=>m (w ▸ ma)) e) (Nat.le_refl _)
  d z.1 z.2
theorem mem1 {q:Addr} (e:I=[q]):q∈I:=e ▸ List.mem_singleton_self q
theorem Lp.as {w:Value} (q:Lp c l H x₀ s₀ y t A env it' u I) (le:x.le y) (hw:VR y v w) (as:As c l H tg v l1 H1) (go:∀ {Q:Post Unit} {E:Post Value},Q () t→wpAny c.M A (letOwnedTupleGo tg u w) Q E t) {Q':Post Unit} {E':Post Value}
    (d:∀ {y t'},x.le y→Lp c l1 H1 x₀ s₀ y t' A env it' u I→Q' () t'):wpAny c.M A (letOwnedTupleGo tg u w) (fun _ t'=>wpAny c.M A (assign tg env w) Q' E' t') E' t:=
  go (as q.p hw fun st p=>d (Wd.le_trans le st.le) (q.mv st p))
theorem turn_list (h:H[i]? = some (.list xs)) (e:xs[k]? = some v) (hg:Go c.g tg "list_iterator") (as:As c l H tg v l1 H1):Turn c l H tg (.list i k) l1 H1 (.list i (k+1)):=fun hc q _ _ d =>
  q.r.elim fun a r=>r.elim fun b r=>(q.p.z.obj i _ b h r.2.2.1).elim fun vs o=>o.elim fun n o=>(o.2.get e).elim fun w hw=>r.1 ▸ wpAny_pyNext_list_item r.2.2.2 (isList o.1) (List.getElem?_toArray.trans hw.1) fun h' hit ke=>d fun d' =>
    (q.at (it':=.list i (k+1)) hc (fun b o m e=>(ke.2 b (ne1 r.2.1 m)).trans e) (Nat.le_refl _) ⟨a,b,r.1,r.2.1,r.2.2.1,hit⟩).as (Wd.le_refl _) hw.2 as (fun hq=>r.1 ▸ hit.elim fun o h1=>hg h1.1 h1.2.1 hq) d'
theorem turn_tup (h:H[i]? = some (.tup xs)) (e:xs[k]? = some v) (hg:Go c.g tg "tuple_iterator") (as:As c l H tg v l1 H1):Turn c l H tg (.tup i k) l1 H1 (.tup i (k+1)):=fun hc q _ _ d =>
  q.r.elim fun a r=>r.elim fun b r=>(q.p.z.obj i _ b h r.2.2.1).elim fun vs o=>o.elim fun n o=>(o.2.get e).elim fun w hw=>r.1 ▸ wpAny_pyNext_tuple_item r.2.2.2 (isTuple o.1) (List.getElem?_toArray.trans hw.1) fun h' hit ke=>d fun d' =>
    (q.at (it':=.tup i (k+1)) hc (fun b o m e=>(ke.2 b (ne1 r.2.1 m)).trans e) (Nat.le_refl _) ⟨a,b,r.1,r.2.1,r.2.2.1,hit⟩).as (Wd.le_refl _) hw.2 as (fun hq=>r.1 ▸ hit.elim fun o h1=>hg h1.1 h1.2.1 hq) d'
theorem turn_range {cur sp:Int} {m:Nat} (hg:Go c.g tg "range_iterator") (as:As c l H tg (.int cur) l1 H1):Turn c l H tg (.range cur sp (m+1)) l1 H1 (.range (cur+sp) sp m):=fun hc q _ _ d =>
  Exists.elim q.r fun a r=>r.1 ▸ wpAny_pyNext_range_item r.2.2 (Int.natCast_pos.mpr (Nat.succ_pos m)) fun h' hit ke=>d fun d' =>
    have hit':IsRangeIter h' a (cur+sp) m sp:=(Int.add_sub_cancel (m:Int) 1) ▸ hit
    have q1:=q.at (it':=.range (cur+sp) sp m) hc (fun b o m e=>(ke.2 b (ne1 r.2.1 m)).trans e) (Nat.le_refl _) ⟨a,r.1,r.2.1,hit'⟩
    have z:=q1.p.z.newInt cur
    (q1.mv z.2.weak (q1.p.step z.2 z.1)).as (Wd.le_addI _ _ _) (VR.newI _ _ _) as (fun hq=>r.1 ▸ hg hit' rfl hq) d'
theorem turn_bytes {n:Int} {ns:List Int} (hg:Go c.g tg "bytes_iterator") (as:As c l H tg (.int n) l1 H1):Turn c l H tg (.bytes (n :: ns)) l1 H1 (.bytes ns):=fun hc q _ _ d =>
  Exists.elim q.r fun a r=>r.2.2.elim fun b w=>w.elim fun tb w=>w.elim fun k w=>by
    have hn:=congrArg (·[0]?) w.2
    rw [List.getElem?_drop,List.getElem?_map] at hn
    refine (Option.map_eq_some_iff.mp hn).elim fun cc hb=>r.1 ▸ KBw.next_item w.1 (Array.getElem?_toList.symm.trans hb.1) fun h' hit ke=>d fun d'=>?_
    have q1:=q.at (it':=.bytes ns) hc (fun b o m e=>(ke.2 b (ne1 r.2.1 m)).trans e) (Nat.le_refl _) ⟨a,r.1,r.2.1,b,tb,k+1,hit,by rw [←List.drop_drop,w.2];rfl⟩
    have z:=q1.p.z.newInt n
    exact (q1.mv z.2.weak (q1.p.step z.2 z.1)).as (Wd.le_addI _ _ _) (hb.2 ▸ VR.newI _ _ _) as (fun hq=>r.1 ▸ hit.elim fun o h1=>hg h1.1 h1.2.1 hq) d'
theorem end_list (h:H[i]? = some (.list xs)) (e:xs.length≤k):End c H (.list i k):=fun hc q _ _ d =>
  q.r.elim fun a r=>r.elim fun b r=>(q.p.z.obj i _ b h r.2.2.1).elim fun vs o=>o.elim fun n o=>r.1 ▸ wpAny_pyNext_list_end (hc ▸ q.p.a).calm r.2.2.2 (isList o.1) (Array.getElem?_eq_none (show vs.length≤k from o.2.length ▸ e)) fun h' ke=>q.end hc (mem1 r.2.1) ke d
theorem end_tup (h:H[i]? = some (.tup xs)) (e:xs.length≤k):End c H (.tup i k):=fun hc q _ _ d =>
  q.r.elim fun a r=>r.elim fun b r=>(q.p.z.obj i _ b h r.2.2.1).elim fun vs o=>o.elim fun n o=>r.1 ▸ wpAny_pyNext_tuple_end (hc ▸ q.p.a).calm r.2.2.2 (isTuple o.1) (Array.getElem?_eq_none (show vs.length≤k from o.2.length ▸ e)) fun h' ke=>q.end hc (mem1 r.2.1) ke d
theorem end_range {cur sp:Int}:End c H (.range cur sp 0):=fun hc q _ _ d =>
  Exists.elim q.r fun a r=>r.1 ▸ wpAny_pyNext_range_end (hc ▸ q.p.a).calm r.2.2 (Int.le_refl _) fun h' ke=>q.end hc (mem1 r.2.1) ke d
theorem end_bytes:End c H (.bytes []):=fun hc q _ _ d =>
  Exists.elim q.r fun a r=>r.2.2.elim fun b w=>w.elim fun tb w=>w.elim fun k w=>r.1 ▸ KBw.next_end (hc ▸ q.p.a).calm w.1 (Array.getElem?_eq_none (by have:=List.drop_eq_nil_iff.mp w.2;rwa [List.length_map] at this)) fun h' ke=>q.end hc (mem1 r.2.1) ke d
theorem end_enum (h:H[i]? = some (.list xs)) (e:xs.length≤k):End c H (.enum i k):=fun hc q _ _ d =>
  q.r.elim fun a r=>r.elim fun en r=>r.2.2.2.elim fun b w=>w.elim fun old w=>(q.p.z.obj i _ b h w.1).elim fun vs o=>o.elim fun n o=>r.1 ▸ wpAny_pyNext_enum_end (hc ▸ q.p.a).calm w.2.1 w.2.2 (isList o.1) (Array.getElem?_eq_none (show vs.length≤k from o.2.length ▸ e)) fun h' ke=>q.end hc (r.2.1 ▸ List.mem_cons_of_mem _ (List.mem_singleton_self a)) ke d
theorem turn_enum {ta tb:Expr} {ti:Nat} {tp:Pos} (h:H[i]? = some (.list xs)) (e:xs[k]? = some v) (as:At c l H [ta,tb] [.int (k:Nat),v] l1 H1):Turn c l H (.Tuple [ta,tb] ti tp) (.enum i k) l1 H1 (.enum i (k+1)):=fun {x₀ s₀ x s A env u I} hc q _ _ d =>
  q.r.elim fun a r=>r.elim fun en r=>r.2.2.2.elim fun b w=>w.elim fun old w=>(q.p.z.obj i _ b h w.1).elim fun vs o=>o.elim fun n o=>(o.2.get e).elim fun w' hw=>r.1 ▸ wpAny_pyNext_enum_item w.2.1 w.2.2 (isList o.1) (List.getElem?_toArray.trans hw.1) r.2.2.1 fun h' hen hit gt hsz ke=>d fun d'=>r.1 ▸
    wpAny_letOwnedTupleGo_enum hen fun h2 hen2 ke2=>by
      have tne:s.heap.objs.size≠en:=fun q'=>absurd (Heap.lt_size w.2.1) (q' ▸ Nat.lt_irrefl _)
      have q1:=q.at (h':=h2) (tk:=s.toks) (it':=.enum i (k+1)) hc (fun b o m e=>(ke2.2 b fun q'=>m (r.2.1 ▸ q' ▸ List.mem_cons_self)).trans (ke b o (fun q'=>m (r.2.1 ▸ q' ▸ List.mem_cons_self)) (fun q'=>m (r.2.1 ▸ q' ▸ List.mem_cons_of_mem _ (List.mem_singleton_self _))) e)) (Nat.le_refl _)
        ⟨a,en,r.1,r.2.1,r.2.2.1,b,_,w.1,hen2,hit.imp fun o w=>⟨(ke2.2 a (Ne.symm r.2.2.1)).trans w.1,w.2⟩⟩
      have z:=q1.p.z.newInt (k:Nat)
      have q2:=q1.mv z.2.weak (q1.p.step z.2 z.1)
      have sh:=as.sh
      rw [arm_assign_Tuple]
      refine wpAny_bind (wpAny_standAt ?_)
      unfold unpack
      rw [(sh _).1,(sh _).2]
      refine wpAny_bind (wpAny_holding (unpack_tuple (items:=#[.int k s.toks,w']) q2.p.a.held ⟨_,(ke2.2 _ tne).trans gt,rfl,_,rfl⟩ fun h3 k3 hz=>?_))
      have zz:=q2.p.z.stay (h':=h3) (tk:=s.toks+1) k3 (Nat.le_refl _)
      have q3:=q2.mv zz.2.weak (q2.p.step zz.2 zz.1)
      exact as.wp q3.p (.cons ((VR.newI x s.toks (k:Nat)).mono zz.2.le) (.cons ((hw.2.mono (x.le_addI _ _)).mono zz.2.le) .nil)) fun st p=>d' (Wd.le_trans (x.le_addI _ _) (Wd.le_trans zz.2.le st.le)) (q3.mv st p)
end
section
variable {c:Cx} {g:Gx} {x x₀ y:Wd} {H H1 H2 H3 H4:AHeap} {s s₀ t:Shared} {A:Around} {l l1 l2 l3:Loc} {env:Env} {E:Post Value} {e e0 e1 e2 tg:Expr} {v v1 v2:AV} {nm:Str} {pos np ap:Pos} {i j k:Nat} {b o:List Stmt} {r:SOut} {xs vs:List AV} {es:List Expr} {it it':AIter} {u:Value} {I:List Addr} {h h':Heap}
noncomputable def Wh (c:Cx) (l:Loc) (H:AHeap) (t:Expr) (b:List Stmt) (l':Loc) (H':AHeap):Prop:=
  ∀ {x s A env},Ready c l H x s A env→∀ {T:Post Result},(∀ {y t},Step [env.locals] x s y t→Ready c l' H' y t A env→T (.ok .next) t)→codeAny c.M A (.whileLoop t b [] env) T s
theorem whl_turn {test:Expr} {T:Post Result} (h:wpAny g.M A (isTrue test env (eval test env)) (fun q s₂=>if q=true then wpAny g.M A (execs b env) (fun f s₃=>f = .next∧codeAny g.M A (.whileLoop test b [] env) T s₃) (fun _ _=>False) s₂ else T (.ok .next) s₂) (fun _ _=>False) s):codeAny g.M A (.whileLoop test b [] env) T s:=by
  refine codeAny_of_tree ?_
  show wpAny _ A ((whileTurn test b [] env).onRaise (fun x=>do noteFrame x env;theTreesLotGoes x)) _ _ s
  refine wpAny_noted (wpAny_bind (wpAny_mono h (fun q s₂ h₂=>?_) fun _ _ h'=>h'.elim))
  cases q with
  | false=>exact wpAny_bind (m:=execs [] env) (wpAny_execs_nil (wpAny_pure h₂))
  | true=>exact wpAny_bind (m:=execs b env) (wpAny_mono h₂ (fun f s₃ h₃=>by
      have q:=h₃.1
      subst q
      exact wpAny_pure ⟨rfl,h₃.2⟩) fun _ _ h'=>h'.elim)
theorem wh_step (h:Ts c l H e true H1) (hb:Ex c l H1 b ⟨.next,l1,H2⟩) (hw:Wh c l1 H2 e b l2 H3):Wh c l H e b l2 H3:=fun p _ d =>
  whl_turn (h p fun s1 z1 r1=>r1 ▸ hb (p.step s1 z1) fun s2 p2=>⟨rfl,hw p2 fun s3 p3=>d ((s1.trW s2).trX s3) p3⟩)
theorem wh_sub (hl:∀ nm v,l1.lookup nm=some v→l.lookup nm=some v) (h:Wh c l1 H e b l2 H1):Wh c l H e b l2 H1:=fun p _ d=>h (p.sub hl) d
theorem st_while (h:Wh c l H e b l1 H1):St c l H (.While e b [] pos) ⟨.next,l1,H1⟩:=fun p _ _ d=>wpAny_While (h p d)
noncomputable def DoneC (c:Cx) (A:Around) (env:Env) (x:Wd) (s:Shared) (r:SOut) (T:Post Result):Prop:=
  match r with
  | ⟨.next,l,H⟩=>∀ {y t},Step [env.locals] x s y t→Ready c l H y t A env→T (.ok .next) t
  | ⟨.ret v,l,H⟩=>∀ {y t u},Step [env.locals] x s y t→Ready c l H y t A env→VR y v u→T (.ok (.ret u)) t
  | ⟨.exc i,l,H⟩=>∀ {y t e},Step [env.locals] x s y t→Ready c l H y t A env→y.ρ[i]? = some e→(∃ L,env.frame=some L∧FlyAt (rawInt L) t.heap e)→T (.error (.ref e)) t
noncomputable def Fr (c:Cx) (l:Loc) (H:AHeap) (tg:Expr) (it:AIter) (b o:List Stmt) (r:SOut):Prop:=
  ∀ {x₀ s₀ x s A env u I},c.k.hd=false→Lp c l H x₀ s₀ x s A env it u I→∀ {T:Post Result},DoneC c A env x₀ s₀ r T→codeAny c.M A (.forLoop tg u b o env) T s
theorem for_turn {T:Post Result} (h:wpAny g.M A (pyNext u) (fun r s₁=>match r with
      | none=>wpAny g.M A (execs o env) (fun f s₃=>T (.ok f) s₃) (notedBy g.M A env fun e s'=>T (.error e) s') s₁
      | some v=>wpAny g.M A (letOwnedTupleGo tg u v) (fun _ s₁'=>wpAny g.M A (assign tg env v) (fun _ s₂=>wpAny g.M A (execs b env) (fun f s₃=>match f with
            | .next=>codeAny g.M A (.forLoop tg u b o env) T s₃
            | .ret v=>T (.ok (.ret v)) s₃
            | _ => False) (fun _ _=>False) s₂) (fun _ _=>False) s₁') (fun _ _=>False) s₁)
      (fun _ _=>False) s):codeAny g.M A (.forLoop tg u b o env) T s:=by
  refine codeAny_of_tree ?_
  show wpAny _ A ((forTurn tg u b o env).onRaise (fun x=>do noteFrame x env;theTreesLotGoes x)) _ _ s
  refine wpAny_noted (wpAny_bind (wpAny_standAt (wpAny_bind (m:=(pyNext u).onRaise _) (wpAny_onRaise (wpAny_mono h (fun r s₁ h₁=>?_) fun _ _ h'=>h'.elim)))))
  cases r with
  | none=>exact wpAny_pure ⟨rfl,codeAny_block h₁⟩
  | some v=>exact wpAny_bind (m:=letOwnedTupleGo _ _ _) (wpAny_mono h₁ (fun _ s₁' h₁'=>wpAny_bind (wpAny_mono h₁' (fun _ s₂ h₂=>wpAny_bind (wpAny_mono h₂ (fun f s₃ h₃=>by
      cases f with
      | next=>exact wpAny_pure ⟨rfl,h₃⟩
      | cont=>exact h₃.elim
      | brk=>exact h₃.elim
      | ret v=>exact wpAny_pure h₃) fun _ _ h'=>h'.elim)) fun _ _ h'=>h'.elim)) fun _ _ h'=>h'.elim)
theorem fr_end (h:End c H it) (ho:Ex c l H o r):Fr c l H tg it b o r:=fun {x₀ s₀ x s A env u I} hc q T d=>for_turn (h hc q fun st p=>ho p (match r,d with
  | ⟨.next,_,_⟩,d=>fun s1 p1=>d (st.trX s1) p1
  | ⟨.ret _,_,_⟩,d=>fun s1 p1 hu=>d (st.trX s1) p1 hu
  | ⟨.exc _,_,_⟩,d=>fun s1 p1 hi hf=>p1.frIn.elim fun fr hL=>hL.elim fun L hL=>note_wp p1.z fr hL hi hf fun t2 z2 s2 f2=>d ((st.trX s1).trV s2) (p1.step s2 z2) hi ⟨L,hL,f2⟩))
theorem fr_step (h:Turn c l H tg it l1 H1 it') (hb:Ex c l1 H1 b ⟨.next,l2,H2⟩) (hf:Fr c l2 H2 tg it' b o r):Fr c l H tg it b o r:=fun hc q T d=>for_turn (h hc q fun k=>k fun _ q1=>hb q1.p fun s2 p2=>hf hc (q1.mv s2 p2) d)
theorem fr_ret (h:Turn c l H tg it l1 H1 it') (hb:Ex c l1 H1 b ⟨.ret v,l2,H2⟩):Fr c l H tg it b o ⟨.ret v,l2,H2⟩:=fun hc q T d=>for_turn (h hc q fun k=>k fun _ q1=>hb q1.p fun s2 p2 hu=>d (q1.st.trX s2) p2 hu)
theorem fr_sub (hl:∀ nm v,l1.lookup nm=some v→l.lookup nm=some v) (h:Fr c l1 H tg it b o r):Fr c l H tg it b o r:=fun hc q T d=>h hc ⟨q.p.sub hl,q.st,q.r,q.new⟩ d
noncomputable def ItNew (s:Shared) (y:Wd) (I:List Addr):Prop:=∀ l∈I,s.heap.get? l=none∧179≤l∧¬ y.own l
noncomputable def It (c:Cx) (l:Loc) (H:AHeap) (e:Expr) (it:AIter) (H':AHeap):Prop:=
  ∀ {x s A env},Ready c l H x s A env→∀ {Q E},(∀ {y t u I},Step [] x s y t→Rl c.g y H' t→Itr y t.heap it u I→ItNew s y I→Q u t)→wpAny c.M A (eval e env) (fun v t=>wpAny c.M A (pyIter v) Q E t) E s
theorem st_for (hs:∀ env v,foldedSetIterable e env v=pure v) (hc:c.k.hd=false) (h:It c l H e it H1) (hf:Fr c l H1 tg it b o r):St c l H (.For tg e b o pos) r:=fun {x s A env} p Q E d =>
  wpAny_For (h p fun st z ir inn=>hf hc ⟨p.step st z,st.weak,ir,inn⟩ (match r,d with
    | ⟨.next,_,_⟩,d=>fun s1 p1=>d s1 p1
    | ⟨.ret _,_,_⟩,d=>fun s1 p1 hu=>d s1 p1 hu
    | ⟨.exc _,_,_⟩,d=>fun s1 p1 hi hf=>hf.elim fun L hf=>back_wp p1.z hf.1 hi hf.2 fun t2 z2 s2 f2=>d (s1.trV s2) (p1.step s2 z2) hi (.inr ⟨L,hf.1,f2⟩))) (hs env)
theorem fresh_it (z:Rl g y H t) (st:Live s.heap t.heap) {a:Addr} (ha:t.heap.objs.size≤a):s.heap.get? a=none∧179≤a∧¬ y.own a:=
  have hn:t.heap.get? a=none:=Heap.get?_none_of_le ha
  ⟨st.none hn,Nat.le_trans z.big ha,z.fresh hn⟩
theorem fresh1 (z:Rl g y H t) (st:Live s.heap t.heap) {a:Addr} (ha:t.heap.objs.size≤a):ItNew s y [a]:=fun l m=>List.mem_singleton.mp m ▸ fresh_it z st ha
theorem it_list (h:Ev c l H e (.ob i) H1) (hx:H1[i]? = some (.list xs)):It c l H e (.list i 0) H1:=fun p _ _ d=>h p fun {y t u} s1 z1 r1=>r1.elim fun a r=>(z1.obj i _ a hx r.1).elim fun vs o=>o.elim fun n o=>r.2 ▸ wpAny_pyIter_list (isList o.1)
  (have zz:=z1.push { cls:=.type "list_iterator",data:=.fields #[.ref a,.int 0 0] } t.toks
   d (I:=[_]) (s1.trW zz.2) zz.1 ⟨_,a,rfl,rfl,r.1,_,Heap.get?_push_size _ rfl,rfl,rfl⟩ (fresh1 z1 s1.size (Nat.le_refl _)))
theorem it_tup (h:Ev c l H e (.ob i) H1) (hx:H1[i]? = some (.tup xs)):It c l H e (.tup i 0) H1:=fun p _ _ d=>h p fun {y t u} s1 z1 r1=>r1.elim fun a r=>(z1.obj i _ a hx r.1).elim fun vs o=>o.elim fun n o=>r.2 ▸ wpAny_pyIter_tuple (isTuple o.1)
  (have zz:=z1.push { cls:=.type "tuple_iterator",data:=.fields #[.ref a,.int 0 0] } t.toks
   d (I:=[_]) (s1.trW zz.2) zz.1 ⟨_,a,rfl,rfl,r.1,_,Heap.get?_push_size _ rfl,rfl,rfl⟩ (fresh1 z1 s1.size (Nat.le_refl _)))
theorem it_bytes {ns:List Int} (h:Ev c l H e (.bytes ns) H1):It c l H e (.bytes ns) H1:=fun p _ _ d=>h p fun {y t u} s1 z1 r1=>r1.elim fun b r=>r.elim fun tb r=>r.1 ▸ KBw.pyIter_bytes
  (have zz:=z1.push { cls:=.type "bytes_iterator",data:=.fields #[.bytes b tb,.int 0 0] } t.toks
   d (I:=[_]) (s1.trW zz.2) zz.1 ⟨_,rfl,rfl,b,tb,0,⟨_,Heap.get?_push_size _ rfl,rfl,rfl⟩,r.2⟩ (fresh1 z1 s1.size (Nat.le_refl _)))
theorem ty_call {T:String} (hs:Plain (e :: es)) (hk:globQ c.k nm=true) (hb:bglob.lookup nm=some (false,T)) (p:Ready c l H x s A env) {Q:Post Value} (h:wpAny c.M A (spliced (plainArgs (e :: es) env)) (fun us t=>wpAny c.M A (PySem.call (.type T) us) Q E t) E s):wpAny c.M A (eval (.Call (.Name nm np) (e :: es) [] pos) env) Q E s:=by
  show wpAny _ _ (do callWith pos (←eval (.Name nm np) env) [] (backTo pos (starEach (e :: es) env)) (backToKw pos (keywordEach [] env))) _ _ _
  rw [hs]
  exact p.z.tp.ns.elim fun _ n=>n.elim fun _ n=>wpAny_bind (global_wp p.r.b hk (loadGlobal_builtin (p.r.b.glob ▸ n.1) (n.2.2.2.1 nm _ hb).1 (p.r.b.blt ▸ n.2.1) (n.2.2.2.1 nm _ hb).2
    (callWith_any (plain_any _ _) rfl (evalArgs_plain (wpAny_mono h (fun us t h=>⟨.inl rfl,h⟩) fun _ _ y=>y)))))
theorem it_enum (hs:Plain [e]) (hk:globQ c.k "enumerate" = true) (h:Ev c l H e (.ob i) H1) (hx:H1[i]? = some (.list xs)):It c l H (.Call (.Name "enumerate" np) [e] [] pos) (.enum i 0) H1:=fun p _ _ d =>
  ty_call hs hk (by kernel_rfl) p (es_cons h es_nil p fun {y t _} s1 z1 r1=>r1.cons_ (P:=fun us=>wpAny _ _ (PySem.call _ us) _ _ _) fun u us r1 r2=>r2.nil_ (P:=fun us=>wpAny _ _ (PySem.call _ (u :: us)) _ _ _)
   (r1.elim fun a r=>(z1.obj i _ a hx r.1).elim fun vs o=>o.elim fun n o=>r.2 ▸ call_enumerate_list (isList o.1) fun h' hen hli hsz k=>wpAny_pyIter_enum hen
    (have zz:=z1.stay (tk:=t.toks) k
     d (I:=[_,_]) (s1.trW zz.2) zz.1 ⟨_,_,rfl,rfl,Nat.succ_ne_self _,a,_,r.1,hen,hli⟩ fun l m=>(List.mem_cons.mp m).elim (fun m=>m ▸ fresh_it z1 s1.size (Nat.le_succ _)) fun m=>List.mem_singleton.mp m ▸ fresh_it z1 s1.size (Nat.le_refl _))))
noncomputable def rangeN (a b st:Int):Nat:=if a < b then ((b - a - 1) / st).toNat+1 else 0
theorem rangeSize_pos {a b st:Int} (h:0 < st):Builtin.Range.rangeSize a b st=(rangeN a b st:Nat):=by
  unfold Builtin.Range.rangeSize rangeN
  rw [if_pos h]
  split
  · exact congrArg (·+1) (Int.toNat_of_nonneg (Int.ediv_nonneg (by omega) (Int.le_of_lt h))).symm
  · rfl
noncomputable def lim3 (a b:Int):Prop:=(0≤a∧a < 1000)∧0≤b∧b < 1000
theorem range_small {a b st:Int} (h:lim3 a b) (h5:0 < st) (h6:st < 1000):Builtin.Range.small a b st=true:=by
  have hs:0≤Builtin.Range.rangeSize a b st∧Builtin.Range.rangeSize a b st≤1000:=by
    unfold Builtin.Range.rangeSize
    rw [if_pos h5]
    unfold lim3 at h
    split
    · have h7:(b - a - 1) / st≤b - a - 1:=Int.ediv_le_self _ (by omega)
      have h8:0≤(b - a - 1) / st:=Int.ediv_nonneg (by omega) (Int.le_of_lt h5)
      omega
    · omega
  unfold lim3 at h
  unfold Builtin.Range.small
  simp only [Builtin.Range.rangeFitsLong,Bool.and_eq_true,Bool.or_eq_true,decide_eq_true_eq,beq_iff_eq,show st > 0 from h5,if_true]
  omega
theorem range_iter {a b st:Int} {ta tb tc:Tok} {Q:Post Value} (z:Rl g y H1 t) {tk:Nat} (ht:t.toks≤tk) (h:lim3 a b) (h5:0 < st) (h6:st < 1000) (s1:Step [] x s y t)
    (d:∀ {y t u I},Step [] x s y t→Rl g y H1 t→Itr y t.heap (.range a st (rangeN a b st)) u I→ItNew s y I→Q u t) :
    wpAny g.M A (pyIter (.ref t.heap.objs.size)) Q E { t with heap:=t.heap.push { cls:=.type "range",data:=.fields #[.int a ta,.int b tb,.int st tc] },toks:=tk }:=by
  refine wpAny_pyIter_range (IsRange.new _ _ _ _ _ _ _) (range_small h h5 h6) ?_
  have zz:=z.push { cls:=.type "range",data:=.fields #[.int a ta,.int b tb,.int st tc] } tk ht
  have z2:=zz.1.push { cls:=.type "range_iterator",data:=.fields #[rawInt a,rawInt (Builtin.Range.rangeSize a b st),rawInt st] } tk
  have gt:=Heap.get?_push_size (t.heap.push { cls:=.type "range",data:=.fields #[.int a ta,.int b tb,.int st tc] }) (o:={ cls:=.type "range_iterator",data:=.fields #[rawInt a,rawInt (Builtin.Range.rangeSize a b st),rawInt st] }) rfl
  rw [rangeSize_pos h5] at gt z2 ⊢
  exact d (I:=[_]) (s1.trW (zz.2.trW z2.2)) z2.1 ⟨_,rfl,rfl,gt⟩ (fresh1 zz.1 (s1.trW zz.2).size (Nat.le_refl _))
theorem it_range1 {b:Int} (hs:Plain [e]) (hk:globQ c.k "range" = true) (h:Ev c l H e (.int b) H1) (hb:lim3 0 b):It c l H (.Call (.Name "range" np) [e] [] pos) (.range 0 1 (rangeN 0 b 1)) H1:=fun p _ _ d =>
  ty_call hs hk (by kernel_rfl) p (es_cons h es_nil p fun {y t _} s1 z1 r1=>r1.cons_ (P:=fun us=>wpAny _ _ (PySem.call _ us) _ _ _) fun u us r1 r2=>r2.nil_ (P:=fun us=>wpAny _ _ (PySem.call _ (u :: us)) _ _ _)
   (r1.elim fun a r=>r.2 ▸ call_range_1 (range_iter z1 (Nat.le_add_right _ 2) hb (by decide) (by decide) s1 d)))
theorem it_range2 {a b:Int} (hs:Plain [e1,e2]) (hk:globQ c.k "range" = true) (h1:Ev c l H e1 (.int a) H1) (h2:Ev c l H1 e2 (.int b) H2) (hb:lim3 a b):It c l H (.Call (.Name "range" np) [e1,e2] [] pos) (.range a 1 (rangeN a b 1)) H2:=fun p _ _ d =>
  ty_call hs hk (by kernel_rfl) p (es_cons h1 (es_cons h2 es_nil) p fun {y t _} s1 z1 r1=>r1.cons_ (P:=fun us=>wpAny _ _ (PySem.call _ us) _ _ _) fun u us r1 r2=>r2.cons_ (P:=fun us=>wpAny _ _ (PySem.call _ (u :: us)) _ _ _) fun u' us r2 r3=>r3.nil_ (P:=fun us=>wpAny _ _ (PySem.call _ (u :: u' :: us)) _ _ _)
   (r1.elim fun a r=>r2.elim fun a' r'=>by rw [r.2,r'.2];exact call_range_2 (range_iter z1 (Nat.le_add_right _ 1) hb (by decide) (by decide) s1 d)))
theorem it_range3 {a b st:Int} (hs:Plain [e0,e1,e2]) (hk:globQ c.k "range" = true) (h0:Ev c l H e0 (.int a) H1) (h1:Ev c l H1 e1 (.int b) H2) (h2:Ev c l H2 e2 (.int st) H3) (hb:lim3 a b) (hp:0 < st) (hq:st < 1000):It c l H (.Call (.Name "range" np) [e0,e1,e2] [] pos) (.range a st (rangeN a b st)) H3:=fun p _ _ d =>
  ty_call hs hk (by kernel_rfl) p (es_cons h0 (es_cons h1 (es_cons h2 es_nil)) p fun {y t _} s1 z1 r1=>r1.cons_ (P:=fun us=>wpAny _ _ (PySem.call _ us) _ _ _) fun u us r1 r2=>r2.cons_ (P:=fun us=>wpAny _ _ (PySem.call _ (u :: us)) _ _ _) fun u' us r2 r3=>r3.cons_ (P:=fun us=>wpAny _ _ (PySem.call _ (u :: u' :: us)) _ _ _) fun u'' us r3 r4=>r4.nil_ (P:=fun us=>wpAny _ _ (PySem.call _ (u :: u' :: u'' :: us)) _ _ _)
   (r1.elim fun a r=>r2.elim fun a' r'=>r3.elim fun a'' r''=>by rw [r.2,r'.2,r''.2];exact call_range_3 (Int.ne_of_gt hp) (range_iter z1 (Nat.le_refl _) hb hp hq s1 d) (Or.inl (PyProof.noPylong_small (by omega)))))
end
noncomputable def feed {α:Type} (S:Setting) (t:Sem α):List Obj→Option (List Addr × α):=
  Sem.rec (motive:=fun _=>List Obj→Option (List Addr × α)) (fun a _=>some ([],a)) (fun _ _=>none) (fun _ _=>none) (fun _ _=>none) (fun _ _ k=>k ()) (fun _ _ _ _=>none)
    (fun a _ _ k os=>match os with
      | []=>none
      | o :: os=>(k o os).map fun r=>(a :: r.1,r.2))
    (fun _ _ _ _ _ _=>none) (fun _ _ _ _=>none) (fun _ _ _ _=>none) (fun _ _ k=>k ()) (fun _ _ _ _=>none) (fun _ _ _=>none) (fun _ k=>k S) (fun _ _ _ _ _=>none) (fun _ _ _ _ _=>none) (fun _ _ _ _ _ _ _=>none) (fun _ _ _ _=>none) (fun _ _ _ _=>none)
    (fun _ _ _ _=>none) (fun _ _ _ _ _ _=>none) (fun _ _ _ _ _ _=>none) (fun _ _ _=>none) (fun _ _ _ _=>none) (fun _ _ _=>none) (fun _ _ _ _ _ _ _=>none) t
noncomputable def Lies (h:Heap):List Addr→List Obj→Prop
  | a :: as,o :: os=>h.get? a=some o∧Lies h as os
  | _,_=>True
theorem none_some {β:Type} {a:β} {P:Prop} (e:none=some a):P:=nomatch e
theorem feed_wp {α:Type} {M:Model} {A:Around} {E:Post Value} {Q:Post α} {s:Shared} {v:α} (q:Q v s):∀ {t:Sem α} {os:List Obj} {as:List Addr},feed ⟨M.prog,M.w.params⟩ t os=some (as,v)→Lies s.heap as os→PySem.wpAny M A t Q E s:=fun {t}=>by
  induction t with
  | pure a=>exact fun {os as} e _=>(Prod.mk.inj (Option.some.inj e)).2 ▸ PySem.wpAny_pure ((Prod.mk.inj (Option.some.inj e)).2.symm ▸ q)
  | rule _ k ih=>exact fun e l Γ p hΓ=>ih () e l Γ p hΓ
  | point _ k ih=>exact fun e l Γ p hΓ=>ih () e l Γ p hΓ
  | ask k ih=>exact fun e l Γ p hΓ=>ih _ e l Γ p hΓ
  | load a _ k ih=>exact fun {os as} e l Γ p hΓ=>match os,e,l with
    | o :: os,e,l=>(Option.map_eq_some_iff.mp e).elim fun r w=>by
      have w2:=Prod.mk.inj w.2
      rw [←w2.1] at l
      exact ⟨o,l.1,ih o (w.1.trans (congrArg some (Prod.ext rfl w2.2))) l.2 Γ p hΓ⟩
  | _ => exact fun e=>none_some e
theorem binds_feed {s:Shared} {fd:FuncData} {args:Args} {binds:List (Str × Value)} {os:List Obj} {as:List Addr} (e:∀ S,feed S (bindArgs fd args) os=some (as,binds)) (l:Lies s.heap as os):BindsTo s fd args binds:=fun _ _ _ _ q=>feed_wp q (e _) l
noncomputable def canon (a:Arguments):Arguments:=⟨[],[⟨"a",none,(a.args.getD 0 default).pos⟩,⟨"x",none,(a.args.getD 1 default).pos⟩,⟨"lo",none,(a.args.getD 2 default).pos⟩,⟨"hi",none,(a.args.getD 3 default).pos⟩],none,[⟨"key",none,(a.kwonlyargs.getD 0 default).pos⟩],a.kw_defaults,none,a.defaults⟩
section
variable {s:Shared} {nm q:Str} {pa:Arguments} {body:List Stmt} {scope:Scope} {doc pm cd ct a x lo hi k:Value} {an:Option Addr} {T D:Addr} {t:Tok} {n:Nat}
theorem bind_2 {u:Tok} {kh:Int} {m:Nat} (l:Lies s.heap [T,D] [seqOb "tuple" [.int 0 t,.none] n,{ cls:=.type "dict",data:=.dict #[⟨kh,.str "key" u,.none⟩] m }]):BindsTo s (fnOf nm q (canon pa) body scope (.ref T) (.ref D) doc pm an cd ct) ⟨[a,x],[]⟩ [("a",a),("x",x),("lo",.int 0 t),("hi",.none),("key",.none)]:=
  binds_feed (fun _=>by kernel_rfl) l
theorem bind_4 {u:Tok} {kh:Int} {m:Nat} (l:Lies s.heap [T,D] [seqOb "tuple" [.int 0 t,.none] n,{ cls:=.type "dict",data:=.dict #[⟨kh,.str "key" u,.none⟩] m }]):BindsTo s (fnOf nm q (canon pa) body scope (.ref T) (.ref D) doc pm an cd ct) ⟨[a,x,lo,hi],[]⟩ [("a",a),("x",x),("lo",lo),("hi",hi),("key",.none)]:=
  binds_feed (fun _=>by kernel_rfl) l
theorem bind_k2 (l:Lies s.heap [T] [seqOb "tuple" [.int 0 t,.none] n]):BindsTo s (fnOf nm q (canon pa) body scope (.ref T) (.ref D) doc pm an cd ct) ⟨[a,x],[("key",k)]⟩ [("a",a),("x",x),("lo",.int 0 t),("hi",.none),("key",k)]:=
  binds_feed (fun _=>by kernel_rfl) l
theorem bind_k3 (l:Lies s.heap [T] [seqOb "tuple" [.int 0 t,.none] n]):BindsTo s (fnOf nm q (canon pa) body scope (.ref T) (.ref D) doc pm an cd ct) ⟨[a,x,lo],[("key",k)]⟩ [("a",a),("x",x),("lo",lo),("hi",.none),("key",k)]:=
  binds_feed (fun _=>by kernel_rfl) l
theorem bind_k4 (l:Lies s.heap [T] [seqOb "tuple" [.int 0 t,.none] n]):BindsTo s (fnOf nm q (canon pa) body scope (.ref T) (.ref D) doc pm an cd ct) ⟨[a,x,lo,hi],[("key",k)]⟩ [("a",a),("x",x),("lo",lo),("hi",hi),("key",k)]:=
  binds_feed (fun _=>by kernel_rfl) l
end
section
variable {c:Cx} {g:Gx} {x x₀ y:Wd} {H H1 H2 H3 H4:AHeap} {s s₀ t:Shared} {A:Around} {l l1 l2 l3:Loc} {env:Env} {d:FD} {args:List AV} {kws:List (Str × AV)} {v:AV} {k:K} {i n:Nat} {hd:Bool} {nm:Str}
noncomputable def Bound (d:FD) (x:Wd) (s:Shared) (binds:List (Str × AV)) (us:List Value) (ks:List (Str × Value)):Prop:=∃ vb,NRs x binds vb∧∀ fd o,s.heap.get? d.addr=some o→o.data = .func fd→BindsTo s fd ⟨us,ks⟩ vb
noncomputable def Bd (g:Gx) (d:FD) (args:List AV) (kws:List (Str × AV)) (binds:List (Str × AV)):Prop:=
  ∀ {x H s us ks},Rl g x H s→VRs x args us→NRs x kws ks→Bound d x s binds us ks
noncomputable abbrev dfn (d:FD) (doc pm:Value) (an:Option Addr) (cd ct:Value):FuncData:=fnOf d.name d.name d.params d.body d.scope .none .none doc pm an cd ct
theorem bd_of (hm:d∈defTab) (h1:dflD d=false) (h2:d.addr≠122) {us:List Value} {ks:List (Str × Value)} {vb:List (Str × Value)} (z:Rl g x H s) (h:∀ doc pm an cd ct,bindArgs (dfn d doc pm an cd ct) ⟨us,ks⟩=pure vb):∀ fd o,s.heap.get? d.addr=some o→o.data = .func fd→BindsTo s fd ⟨us,ks⟩ vb:=fun fd o e q =>
  (z.tp.fns d hm).rec fun {dV kV doc pm ct c an dd} e1 _ dv _=>by
    unfold DfV at dv
    rw [h1,if_neg Bool.false_ne_true,if_neg h2] at dv
    rw [e1] at e
    have e:=Option.some.inj e
    subst e
    have q:=Data.func.inj q
    subst q
    rw [dv.1,dv.2]
    exact .of_eq (h doc pm an (.ref c) ct)
theorem NRs.nil_ {v:List (Str × Value)} (r:NRs x [] v) {P:List (Str × Value)→Prop} (k:P []):P v:=by cases r;exact k
theorem NRs.cons_ {a:AV} {as:List (Str × AV)} {v:List (Str × Value)} (r:NRs x ((nm,a) :: as) v) {P:List (Str × Value)→Prop} (k:∀ u us,VR x a u→NRs x as us→P ((nm,u) :: us)):P v:=by cases r with | cons p q=>exact k _ _ p q
theorem bd_1 {a:AV} {n1:Str} (hm:d∈defTab) (h1:dflD d=false) (h2:d.addr≠122) (h:∀ doc pm an cd ct u,bindArgs (dfn d doc pm an cd ct) ⟨[u],[]⟩=pure [(n1,u)]):Bd g d [a] [] [(n1,a)]:=fun {x _ s _ _} z r1 r2 =>
  r2.nil_ (P:=fun ks=>Bound d x s _ _ ks) (r1.cons_ (P:=fun us=>Bound d x s _ (us) _) fun u us q1 r1=>r1.nil_ (P:=fun us=>Bound d x s _ (u :: us) _)
   ⟨_,.cons q1 .nil,bd_of hm h1 h2 z fun doc pm an cd ct=>h doc pm an cd ct u⟩)
theorem bd_2 {a b:AV} {n1 n2:Str} (hm:d∈defTab) (h1:dflD d=false) (h2:d.addr≠122) (h:∀ doc pm an cd ct u v,bindArgs (dfn d doc pm an cd ct) ⟨[u,v],[]⟩=pure [(n1,u),(n2,v)]):Bd g d [a,b] [] [(n1,a),(n2,b)]:=fun {x _ s _ _} z r1 r2 =>
  r2.nil_ (P:=fun ks=>Bound d x s _ _ ks) (r1.cons_ (P:=fun us=>Bound d x s _ (us) _) fun u us q1 r1=>r1.cons_ (P:=fun us=>Bound d x s _ (u :: us) _) fun v us q2 r1=>r1.nil_ (P:=fun us=>Bound d x s _ (u :: v :: us) _)
   ⟨_,.cons q1 (.cons q2 .nil),bd_of hm h1 h2 z fun doc pm an cd ct=>h doc pm an cd ct u v⟩)
theorem bd_3 {a b c:AV} {n1 n2 n3:Str} (hm:d∈defTab) (h1:dflD d=false) (h2:d.addr≠122) (h:∀ doc pm an cd ct u v w,bindArgs (dfn d doc pm an cd ct) ⟨[u,v,w],[]⟩=pure [(n1,u),(n2,v),(n3,w)]):Bd g d [a,b,c] [] [(n1,a),(n2,b),(n3,c)]:=fun {x _ s _ _} z r1 r2 =>
  r2.nil_ (P:=fun ks=>Bound d x s _ _ ks) (r1.cons_ (P:=fun us=>Bound d x s _ (us) _) fun u us q1 r1=>r1.cons_ (P:=fun us=>Bound d x s _ (u :: us) _) fun v us q2 r1=>r1.cons_ (P:=fun us=>Bound d x s _ (u :: v :: us) _) fun w us q3 r1=>r1.nil_ (P:=fun us=>Bound d x s _ (u :: v :: w :: us) _)
   ⟨_,.cons q1 (.cons q2 (.cons q3 .nil)),bd_of hm h1 h2 z fun doc pm an cd ct=>h doc pm an cd ct u v w⟩)
theorem bd_dfl {us:List Value} {ks:List (Str × Value)} {binds:List (Str × AV)} (hm:d∈defTab) (h1:dflD d=true) (hc:d.params=canon d.params) (z:Rl g x H s)
    (h:∀ T n D t kh u m,(t,(0:Int))∈x.τ→s.heap.get? T=some (seqOb "tuple" [.int 0 t,.none] n)→s.heap.get? D=some { cls:=.type "dict",data:=.dict #[⟨kh,.str "key" u,.none⟩] m }→∃ vb,NRs x binds vb∧∀ doc pm an cd ct,BindsTo s (fnOf d.name d.name (canon d.params) d.body d.scope (.ref T) (.ref D) doc pm an cd ct) ⟨us,ks⟩ vb):Bound d x s binds us ks:=
  (z.tp.fns d hm).rec fun {dV kV doc pm ct c an dd} e1 _ dv _=>by
    unfold DfV at dv
    rw [if_pos h1] at dv
    exact dv.elim fun T dv=>dv.elim fun n dv=>dv.elim fun D dv=>dv.elim fun t dv=>dv.elim fun kh dv=>dv.elim fun u dv=>dv.elim fun m dv=>(h T n D t kh u m (z.base.2 _ dv.2.2.1) dv.2.2.2.1 dv.2.2.2.2).imp fun vb q=>⟨q.1,fun fd o e w=>by
      rw [e1] at e
      have e:=Option.some.inj e
      subst e
      have w:=Data.func.inj w
      subst w
      rw [dv.1,dv.2.1,hc]
      exact hc ▸ q.2 doc pm an (.ref c) ct⟩
noncomputable def srch (a x lo hi key:AV):List (Str × AV):=[("a",a),("x",x),("lo",lo),("hi",hi),("key",key)]
theorem bd_s2 {a v:AV} (hm:d∈defTab) (h1:dflD d=true) (hc:d.params=canon d.params):Bd g d [a,v] [] (srch a v (.int 0) .none .none):=fun {x _ s _ _} z r1 r2 =>
  r2.nil_ (P:=fun ks=>Bound d x s _ _ ks) (r1.cons_ (P:=fun us=>Bound d x s _ us _) fun u us q1 r1=>r1.cons_ (P:=fun us=>Bound d x s _ (u :: us) _) fun w us q2 r1=>r1.nil_ (P:=fun us=>Bound d x s _ (u :: w :: us) _)
   (bd_dfl hm h1 hc z fun T n D t kh m u' ht e1 e2=>⟨_,.cons q1 (.cons q2 (.cons ⟨t,ht,rfl⟩ (.cons rfl (.cons rfl .nil)))),fun _ _ _ _ _=>bind_2 ⟨e1,e2,trivial⟩⟩))
theorem bd_sk2 {a v k:AV} (hm:d∈defTab) (h1:dflD d=true) (hc:d.params=canon d.params):Bd g d [a,v] [("key",k)] (srch a v (.int 0) .none k):=fun {x _ s _ _} z r1 r2 =>
  r2.cons_ (P:=fun ks=>Bound d x s _ _ ks) fun kk _ qk r2=>r2.nil_ (P:=fun ks=>Bound d x s _ _ (("key",kk) :: ks)) (r1.cons_ (P:=fun us=>Bound d x s _ us _) fun u us q1 r1=>r1.cons_ (P:=fun us=>Bound d x s _ (u :: us) _) fun w us q2 r1=>r1.nil_ (P:=fun us=>Bound d x s _ (u :: w :: us) _)
   (bd_dfl hm h1 hc z fun T n D t kh m u' ht e1 e2=>⟨_,.cons q1 (.cons q2 (.cons ⟨t,ht,rfl⟩ (.cons rfl (.cons qk .nil)))),fun _ _ _ _ _=>bind_k2 ⟨e1,trivial⟩⟩))
theorem bd_sk3 {a v lo k:AV} (hm:d∈defTab) (h1:dflD d=true) (hc:d.params=canon d.params):Bd g d [a,v,lo] [("key",k)] (srch a v lo .none k):=fun {x _ s _ _} z r1 r2 =>
  r2.cons_ (P:=fun ks=>Bound d x s _ _ ks) fun kk _ qk r2=>r2.nil_ (P:=fun ks=>Bound d x s _ _ (("key",kk) :: ks)) (r1.cons_ (P:=fun us=>Bound d x s _ us _) fun u us q1 r1=>r1.cons_ (P:=fun us=>Bound d x s _ (u :: us) _) fun w us q2 r1=>r1.cons_ (P:=fun us=>Bound d x s _ (u :: w :: us) _) fun o us q3 r1=>r1.nil_ (P:=fun us=>Bound d x s _ (u :: w :: o :: us) _)
   (bd_dfl hm h1 hc z fun T n D t kh m u' ht e1 e2=>⟨_,.cons q1 (.cons q2 (.cons q3 (.cons rfl (.cons qk .nil)))),fun _ _ _ _ _=>bind_k3 ⟨e1,trivial⟩⟩))
theorem bd_s4 {a v lo hi:AV} (hm:d∈defTab) (h1:dflD d=true) (hc:d.params=canon d.params):Bd g d [a,v,lo,hi] [] (srch a v lo hi .none):=fun {x _ s _ _} z r1 r2 =>
  r2.nil_ (P:=fun ks=>Bound d x s _ _ ks) (r1.cons_ (P:=fun us=>Bound d x s _ us _) fun u us q1 r1=>r1.cons_ (P:=fun us=>Bound d x s _ (u :: us) _) fun w us q2 r1=>r1.cons_ (P:=fun us=>Bound d x s _ (u :: w :: us) _) fun o us q3 r1=>r1.cons_ (P:=fun us=>Bound d x s _ (u :: w :: o :: us) _) fun p us q4 r1=>r1.nil_ (P:=fun us=>Bound d x s _ (u :: w :: o :: p :: us) _)
   (bd_dfl hm h1 hc z fun T n D t kh m u' ht e1 e2=>⟨_,.cons q1 (.cons q2 (.cons q3 (.cons q4 (.cons rfl .nil)))),fun _ _ _ _ _=>bind_4 ⟨e1,e2,trivial⟩⟩))
theorem bd_sk4 {a v lo hi k:AV} (hm:d∈defTab) (h1:dflD d=true) (hc:d.params=canon d.params):Bd g d [a,v,lo,hi] [("key",k)] (srch a v lo hi k):=fun {x _ s _ _} z r1 r2 =>
  r2.cons_ (P:=fun ks=>Bound d x s _ _ ks) fun kk _ qk r2=>r2.nil_ (P:=fun ks=>Bound d x s _ _ (("key",kk) :: ks)) (r1.cons_ (P:=fun us=>Bound d x s _ us _) fun u us q1 r1=>r1.cons_ (P:=fun us=>Bound d x s _ (u :: us) _) fun w us q2 r1=>r1.cons_ (P:=fun us=>Bound d x s _ (u :: w :: us) _) fun o us q3 r1=>r1.cons_ (P:=fun us=>Bound d x s _ (u :: w :: o :: us) _) fun p us q4 r1=>r1.nil_ (P:=fun us=>Bound d x s _ (u :: w :: o :: p :: us) _)
   (bd_dfl hm h1 hc z fun T n D t kh m u' ht e1 e2=>⟨_,.cons q1 (.cons q2 (.cons q3 (.cons q4 (.cons qk .nil)))),fun _ _ _ _ _=>bind_k4 ⟨e1,trivial⟩⟩))
end
section
variable {c:Cx} {g:Gx} {x x₀ y:Wd} {H H1 H2 H3 H4:AHeap} {s s₀ t:Shared} {A:Around} {l l1 l2 l3:Loc} {env:Env} {d:FD} {args:List AV} {kws binds:List (Str × AV)} {v:AV} {k:K} {i n:Nat} {hd:Bool} {nm qual:Str} {E:Post Value} {r:SOut}
noncomputable def Bs (g:Gx) (k:K) (l:Loc) (H:AHeap) (binds:List (Str × AV)) (l':Loc) (H':AHeap):Prop:=
  ∀ {x s A env vb},NRs x binds vb→Rl g x H s→EnvB x s.heap k l env→∀ {Q:Post PUnit} {E},(∀ {y t},Step [env.locals] x s y t→Rl g y H' t→EnvB y t.heap k l' env→Q ⟨⟩ t) →
    wpAny g.M A (forIn vb ⟨⟩ (fun p _=>do storeName env p.1 p.2;pure (.yield ⟨⟩))) Q E s
theorem bs_nil:Bs g k l H [] l H:=fun r z b _ _ d=>r.nil_ (P:=fun vb=>wpAny _ _ (forIn vb _ _) _ _ _) (by rw [List.forIn_nil];exact wpAny_pure (d (Step.refl _ _ _) z b))
theorem bs_cons (h1:SnB g k l H nm v l1 H1) (h2:Bs g k l1 H1 binds l2 H2):Bs g k l H ((nm,v) :: binds) l2 H2:=fun r z b _ _ d =>
  r.cons_ (P:=fun vb=>wpAny _ _ (forIn vb _ _) _ _ _) fun u us q1 q2=>by
    rw [List.forIn_cons]
    exact wpAny_bind (wpAny_bind (h1 z b q1 fun s1 z1 b1=>wpAny_pure (h2 (q2.mono s1.le) z1 b1 fun s2 z2 b2=>d (s1.trX s2) z2 b2)))
noncomputable def cellsA (n:Nat):List (Str × NameKind)→List (Str × Nat)→List (Str × Nat)
  | [],acc=>acc
  | (name,kind) :: r,acc=>if kind == .cell then cellsA (n+1) r ((name,n) :: acc) else cellsA n r acc
noncomputable def cellsN:List (Str × NameKind)→AHeap
  | []=>[]
  | (_,kind) :: r=>if kind == .cell then .cell none :: cellsN r else cellsN r
theorem cells_rl:∀ (names:List (Str × NameKind)) {acc:List (Str × Nat)} {av:List (Str × Addr)} {x:Wd} {H:AHeap} {s:Shared},Rl g x H s→CRs x.ρ acc av →
    ∃ y,Step [] x s y { s with heap:=pushCells s.heap names }∧Rl g y (H++cellsN names) { s with heap:=pushCells s.heap names }∧CRs y.ρ (cellsA H.length names acc) (cellsFrom s.heap.objs.size names av)
  | [],acc,av,x,H,s,z,r=>⟨x,Step.refl _ _ _,(List.append_nil H).symm ▸ z,r⟩
  | (k, kind) :: t,acc,av,x,H,s,z,r=>by
    unfold pushCells cellsFrom cellsA cellsN
    by_cases hk:(kind == NameKind.cell)=true
    · rw [if_pos hk,if_pos hk,if_pos hk,if_pos hk]
      have zz:=z.new (ob:={ cls:=.type "cell",data:=.cell none }) (o:=.cell none) rfl (fun e=>⟨none,e,rfl⟩) s.toks
      have ih:=cells_rl t zz.1 (.cons (n:=k) (z.get _) (r.mono (x.le_add _).1))
      rw [List.append_assoc,List.length_append] at ih
      rw [show (s.heap.push { cls:=.type "cell",data:=.cell none }).objs.size=s.heap.objs.size+1 from Heap.size_push ..] at ih
      exact ih.imp fun y q=>⟨zz.2.trW q.1,q.2⟩
    · rw [if_neg hk,if_neg hk,if_neg hk,if_neg hk]
      exact cells_rl t z r
theorem newEnv_wp {scope:Scope} {func:Option Addr} {code:Value} {lam:Bool} {vb:List (Str × Value)} {clA:List (Str × Nat)} {cl:List (Str × Addr)} (z:Rl g x H s) (hk:scope.kind = .function) (hb:NRs x binds vb) (hcl:CRs x.ρ clA cl)
    (bs:Bs g ⟨scope,qual,cellsA H.length scope.names clA,hd,lam⟩ [] (H++cellsN scope.names) binds l1 H1) {Q:Post Env}
    (d:∀ {y t env},env.code=code→env.frame=some env.locals→s.heap.get? env.locals=none→Step [] x s y t→Rl g y H1 t→EnvB y t.heap ⟨scope,qual,cellsA H.length scope.names clA,hd,lam⟩ l1 env→Q env t) :
    wpAny g.M A (newFunctionEnv scope mainGlobals cl vb qual func code none builtinsNs) Q E s:=by
  have zz:=z.push { cls:=.type "frame",data:=.dict #[] } s.toks
  have hfresh:s.heap.get? s.heap.objs.size=none:=Heap.get?_none_of_le (Nat.le_refl _)
  have hnew:(s.heap.push { cls:=.type "frame",data:=.dict #[] }).Ns s.heap.objs.size (fun _=>none):=Heap.Ns.new s.heap (.type "frame")
  refine (cells_rl scope.names zz.1 (acc:=clA) (av:=cl) hcl).elim fun y q=>?_
  have s12:=zz.2.trW q.1
  let env:Env:=newEnv scope s.heap.objs.size mainGlobals (cellsFrom (s.heap.push { cls:=.type "frame",data:=.dict #[] }).objs.size scope.names cl) qual func code none builtinsNs
  have rb:EnvB y (pushCells (s.heap.push { cls:=.type "frame",data:=.dict #[] }) scope.names) ⟨scope,qual,cellsA H.length scope.names clA,hd,lam⟩ [] env:=
    ⟨rfl,hk,rfl,rfl,rfl,q.2.2,⟨_,hnew.keeps (pushCells_keeps _ _),fun n av e=>nomatch e⟩,(Ns.dict hnew).elim fun _ w=>q.1.old w.1 (z.fresh hfresh),z.big⟩
  unfold newFunctionEnv
  refine wpAny_bind (wpAny_alloc (wpAny_bind (wpAny_layCells _ (fun name kind cells=>by cases hkc:kind == NameKind.cell <;> simp [hkc]) _ _ _ _ ?_)))
  exact wpAny_bind (bs (env:=env) (hb.mono s12.le) q.2.1 rb fun s3 z3 r3=>wpAny_pure (d rfl rfl hfresh (s12.trans s3 fun l m=>.inr (List.mem_singleton.mp m ▸ hfresh)) z3 r3))
theorem def_kinds:∀ d∈defTab,d.scope.kind = .function∧d.scope.isCoroutine=false∧d.scope.isGenerator=false:=by decide +kernel
theorem Rl.limit (z:Rl g x H s):s.heap.NoLimit:=⟨_,z.tp.lim,rfl⟩
theorem enter (z:Rl g x H s) (a:Amb x s.heap A (n+1) hd) (b:EnvB x s.heap k l env) (hc:k.hd=hd) (hf:env.frame=some env.locals) (hcode:k.lam=true→∃ cc P,env.code = .ref cc∧CodeHd s.heap cc P∧(P,env.qual)∈x.κ) :
    Ready ⟨g,n,k⟩ l H x s (A.deeper env) env:=
  a.frames.elim fun fl q =>
    have hfr:(A.deeper env).frames=some (env :: fl):=(congrArg (Option.map (env :: ·)) q.1).trans rfl
    ⟨z, ⟨b,⟨env,fl,hfr,rfl,hf ▸ rfl⟩,hcode⟩,⟨(by have:=a.depth;show A.depth+1+n < _;omega),(by have:=a.units;show A.units+3+20 * n+200 < _;omega),hc ▸ a.hdl,_,hfr,
      fun e he=>(List.mem_cons.mp he).elim (fun w=>w ▸ ⟨b.kindE ▸ nofun,_,hf,b.llow,b.lown,b.ns.dict⟩) (q.2 e)⟩⟩
end
section
variable {c:Cx} {g:Gx} {x x₀ y:Wd} {H H1 H2 H3 H4:AHeap} {s s₀ t:Shared} {A:Around} {l l1 l2 l3:Loc} {env:Env} {d:FD} {args:List AV} {kws binds:List (Str × AV)} {v:AV} {k:K} {i n:Nat} {hd:Bool} {nm qual:Str} {E:Post Value} {Q:Post Value} {r:SOut} {us:List Value} {ks vb:List (Str × Value)}
noncomputable def DoneF (g:Gx) (x:Wd) (s:Shared) (r:SOut) (Q:Post Value) (E:Post Value):Prop:=
  match r with
  | ⟨.next,_,H⟩=>∀ {y t},Step [] x s y t→Rl g y H t→Q .none t
  | ⟨.ret v,_,H⟩=>Ok g VR x s v H Q
  | ⟨.exc i,_,H⟩=>Rs g x s i H E
theorem func_wp {b:List Stmt} (h:Ex ⟨g,n,k⟩ l H b r) (p:Ready ⟨g,n,k⟩ l H x s (A.deeper env) env) (st:Step [] x₀ s₀ x s) (hl:s₀.heap.get? env.locals=none) (d:DoneF g x₀ s₀ r Q E) :
    codeAny g.M A (.func b env) (fun r s'=>match r with | .ok (.ret v)=>Q v s' | .ok _=>False | .error e=>E e s') s:=by
  have tr:∀ {y t},Step [env.locals] x s y t→Step [] x₀ s₀ y t:=fun q=>st.trans q fun l m=>.inr (List.mem_singleton.mp m ▸ hl)
  exact codeAny_func (h p (match r,d with
    | ⟨.next,_,_⟩,d=>fun s1 p1=>d (tr s1) p1.z
    | ⟨.ret _,_,_⟩,d=>fun s1 p1 hu=>d (tr s1) p1.z hu
    | ⟨.exc _,_,_⟩,d=>fun s1 p1 hi hf=>p1.frIn.elim fun fr hL=>hL.elim fun L hL=>leaving_wp p1.z fr hL hi hf fun t2 z2 s2 f=>d ((tr s1).trW s2) z2 hi (.inr f)))
noncomputable abbrev kOf (d:FD) (hd:Bool) (N:Nat):K:=⟨d.scope,d.name ++ ".<locals>.",cellsA N d.scope.names [],hd,d.lam⟩
theorem codeIn_step {cc P:Addr} (z:Rl g x H s) (st:Step [] x s y t) (h:CodeHd s.heap cc P):CodeHd t.heap cc P:=codeHd_own h ((st.keep.code z XOk.nil).at h)
theorem def_wp (z:Rl g x H s) (a:Amb x s.heap A (n+1) hd) (hm:d∈defTab) (bs:Bs g (kOf d hd H1.length) [] (H1++cellsN d.scope.names) binds l1 H2) (hx:Ex ⟨g,n,kOf d hd H1.length⟩ l1 H2 d.body r)
    (hb:∀ fd o,s.heap.get? d.addr=some o→o.data = .func fd→∀ {A Q} {E:Post Value},(∀ {y t vb},Step [] x s y t→Rl g y H1 t→NRs y binds vb→Q vb t)→wpAny g.M A (bindArgs fd ⟨us,ks⟩) Q E s) (dn:DoneF g x s r Q E) :
    wpAny g.M A (PySem.call (.ref d.addr) us ks) Q E s:=
  have kd:=def_kinds d hm
  (z.tp.fns d hm).rec fun {dV kV doc pm ct cc an dd} e1 cr _ hlam=>wpAny_call (codeAny_call_function (Nat.lt_of_le_of_lt (Nat.le_add_right _ _) a.depth) e1 rfl kd.2.1 kd.2.2 rfl cr
    (hb _ _ e1 rfl fun s0 z0 nr=>newEnv_wp z0 kd.1 nr .nil bs fun hcode hfr hl s1 z1 b =>
      have s01:=s0.trW s1
      ⟨z1.limit,func_wp hx (enter z1 (a.step0 s01) b rfl hfr fun w=>(hlam w).elim fun P q=>⟨cc,P,hcode,codeIn_step z s01 q.1,b.qual ▸ s01.le.2.1 _ (z.base.1 _ q.2)⟩) s01 (s0.size.none hl) dn⟩))
theorem Bd.wp (h:Bd g d args kws binds) (z:Rl g x H s) (r1:VRs x args us) (r2:NRs x kws ks):∀ fd o,s.heap.get? d.addr=some o→o.data = .func fd→∀ {A Q} {E:Post Value},(∀ {y t vb},Step [] x s y t→Rl g y H t→NRs y binds vb→Q vb t)→wpAny g.M A (bindArgs fd ⟨us,ks⟩) Q E s:=
  fun fd o e q _ _ _ k=>(h z r1 r2).elim fun vb w=>up (w.2 fd o e q _ _ _ _ (k (Step.refl _ _ _) z w.1))
theorem call_ret (hm:d∈defTab) (hb:Bd g d args kws binds) (bs:Bs g (kOf d hd H.length) [] (H++cellsN d.scope.names) binds l1 H1) (hx:Ex ⟨g,n,kOf d hd H.length⟩ l1 H1 d.body ⟨.ret v,l2,H2⟩):Call g (n+1) hd H (.top d.addr) args kws v H2:=fun z a rf r1 r2 _ _ dn =>
  rf.1 ▸ def_wp z a hm bs hx (hb.wp z r1 r2) dn
theorem call_next (hm:d∈defTab) (hb:Bd g d args kws binds) (bs:Bs g (kOf d hd H.length) [] (H++cellsN d.scope.names) binds l1 H1) (hx:Ex ⟨g,n,kOf d hd H.length⟩ l1 H1 d.body ⟨.next,l2,H2⟩):Call g (n+1) hd H (.top d.addr) args kws .none H2:=fun z a rf r1 r2 _ _ dn =>
  rf.1 ▸ def_wp z a hm bs hx (hb.wp z r1 r2) fun s z=>dn s z rfl
theorem call_exc (hm:d∈defTab) (hb:Bd g d args kws binds) (bs:Bs g (kOf d hd H.length) [] (H++cellsN d.scope.names) binds l1 H1) (hx:Ex ⟨g,n,kOf d hd H.length⟩ l1 H1 d.body ⟨.exc i,l2,H2⟩):CallX g (n+1) hd H (.top d.addr) args kws i H2:=fun z a rf r1 r2 _ _ dn =>
  rf.1 ▸ def_wp z a hm bs hx (hb.wp z r1 r2) dn
theorem Call.le {m:Nat} {f:AV} (hl:n≤m) (h:Call g n hd H f args kws v H1):Call g m hd H f args kws v H1:=fun z a=>h z (a.le hl)
theorem CallX.le {m:Nat} {f:AV} (hl:n≤m) (h:CallX g n hd H f args kws i H1):CallX g m hd H f args kws i H1:=fun z a=>h z (a.le hl)
end
section
variable {c:Cx} {g:Gx} {x x₀ y:Wd} {H H1 H2 H3 H4:AHeap} {s s₀ t:Shared} {A:Around} {l l1 l2 l3:Loc} {env:Env} {args:List AV} {kws binds:List (Str × AV)} {v w:AV} {k:K} {i n:Nat} {hd:Bool} {nm qual:Str} {E:Post Value} {Q:Post Value} {body:Expr} {params:Arguments} {scope:Scope} {clos cl:List (Str × Nat)} {at_:Option Nat}
  {P P' cc:Addr} {h':Heap} {ps:Array Value} {pos:Pos} {q q':Str} {ρ:List Addr}
noncomputable abbrev LamBind (qual:Str) (params:Arguments) (body:Expr) (scope:Scope) (nm:Str):Prop:=∀ cl pm c ctv u,bindArgs (kla_fn "<lambda>" qual params body scope cl pm c ctv) ⟨[u],[]⟩=pure [(nm,u)]
noncomputable abbrev kL (qual:Str) (scope:Scope) (clos:List (Str × Nat)) (hd:Bool) (N:Nat):K:=⟨scope,qual ++ ".<locals>.",cellsA N scope.names clos,hd,true⟩
theorem call_lam (h:H[i]? = some (.fn qual params body scope clos at_)) (hk:scope.kind = .function∧scope.isCoroutine=false∧scope.isGenerator=false) (hb:LamBind qual params body scope nm)
    (bs:Bs g (kL qual scope clos hd H.length) [] (H++cellsN scope.names) [(nm,v)] l1 H1) (hx:Ev ⟨g,n,kL qual scope clos hd H.length⟩ l1 H1 body w H2):Call g (n+1) hd H (.ob i) [v] [] w H2:=fun z a rf r1 r2 Q E dn =>
  rf.elim fun b rf=>(z.obj i _ b h rf.1).rec fun {cl pm cc P ctv dd} e r3 r4 _=>rf.2 ▸ r2.nil_ (P:=fun ks=>wpAny _ _ (PySem.call _ _ ks) _ _ _) (r1.cons_ (P:=fun us=>wpAny _ _ (PySem.call _ us _) _ _ _) fun u us q1 r1=>r1.nil_ (P:=fun us=>wpAny _ _ (PySem.call _ (u :: us) _) _ _ _)
    (wpAny_call (kla_callFunE (Nat.lt_of_le_of_lt (Nat.le_add_right _ _) a.depth) e rfl hk.2.1 hk.2.2 rfl r4.r (hb cl pm (.ref cc) ctv u ▸ wpAny_pure (newEnv_wp z hk.1 (.cons q1 .nil) r3 bs fun hcode hfr hl s1 z1 b1 =>
      ⟨z1.limit,kla_codeExpr (hx (enter z1 (a.step0 s1) b1 rfl hfr fun _=>⟨cc,P,hcode,codeIn_step z s1 r4.hd,b1.qual ▸ s1.le.2.1 _ r4.m⟩) fun s2 z2 r=>dn (s1.trW s2) z2 r)⟩)))))
noncomputable def closA (names:List (Str × NameKind)) (cells:List (Str × Nat)) (acc:List (Str × Nat)):Option (List (Str × Nat)):=
  match names with
  | []=>some acc
  | (n,k) :: r=>if k == .free then (cells.lookup n).bind fun i=>closA r cells ((n,i) :: acc) else closA r cells acc
theorem closA_ok {cells:List (Str × Nat)} (hc:CRs ρ cells env.cells):∀ (names:List (Str × NameKind)) {acc cl:List (Str × Nat)} {accE:List (Str × Addr)},CRs ρ acc accE→closA names cells acc=some cl →
    ∃ clE,(forIn names accE (fun (p:Str × NameKind) (cs:List (Str × Addr))=>(if p.2 == .free then do let a ←cellOf env p.1;pure (.yield ((p.1,a) :: cs)) else pure (.yield cs):Sem (ForInStep (List (Str × Addr))))))=pure clE∧CRs ρ cl clE
  | [],acc,cl,accE,ha,h=>⟨accE,by rw [List.forIn_nil],Option.some.inj h ▸ ha⟩
  | (k, kind) :: r,acc,cl,accE,ha,h=>by
    unfold closA at h
    rw [List.forIn_cons]
    by_cases hk:(kind == NameKind.free)=true
    · rw [if_pos hk] at h ⊢
      exact (Option.bind_eq_some_iff.mp h).elim fun i hi=>(hc.look hi.1).elim fun a e=>by
        have ih:=closA_ok hc r (.cons (n:=k) e.2 ha) hi.2
        rw [show cellOf env k=pure a by unfold cellOf;rw [e.1]]
        exact ih
    · rw [if_neg hk] at h ⊢
      exact closA_ok hc r ha h
theorem closure_ok {cells:List (Str × Nat)} (hc:CRs ρ cells env.cells) (h:closA scope.names cells []=some cl):∃ clE,closureFor scope env=pure clE∧CRs ρ cl clE:=
  (closA_ok hc scope.names .nil h).imp fun clE q=>⟨by rw [←q.1];exact bind_pure _,q.2⟩
theorem codeAmong_app {a b:Int} {c cv:Value} (l:List Value) (h:TriplesOk l) (hc:codeAmong pos (l++[rawInt a,rawInt b,c])=some cv):codeAmong pos l=some cv∨cv=c:=by
  fun_induction TriplesOk l with
  | case1 =>
    have hc:(if (a == pos.line && b == pos.col)=true then some c else codeAmong pos [])=some cv:=hc
    split at hc
    · exact .inr (Option.some.inj hc).symm
    · exact nomatch hc
  | case2 a' t b' u x rest ih =>
    rw [List.cons_append,List.cons_append,List.cons_append,codeAmong] at hc
    rw [codeAmong]
    split at hc
    · rename_i q;rw [if_pos q];exact .inl hc
    · rename_i q;rw [if_neg q];exact ih h hc
  | case3 l h1 h2=>exact h.elim
theorem Rl.addTab (z:Rl g x H s) {tk:Nat} (mP:(P,q)∈x.κ) (k:∀ b o,b≠P→s.heap.get? b=some o→h'.get? b=some o) (t1:TabIn ⟨x.ρ,(P',q') :: x.κ,x.τ⟩ h' P q)
    (t2:TabIn ⟨x.ρ,(P',q') :: x.κ,x.τ⟩ h' P' q') (hP':s.heap.get? P'=none) (ht:s.toks≤tk):Rl g ⟨x.ρ,(P',q') :: x.κ,x.τ⟩ H { s with heap:=h',toks:=tk }∧Step [] x s ⟨x.ρ,(P',q') :: x.κ,x.τ⟩ { s with heap:=h',toks:=tk }:=
  have le:x.le ⟨x.ρ,(P',q') :: x.κ,x.τ⟩:=⟨List.prefix_refl _,fun _ m=>List.mem_cons_of_mem _ m,fun _ m=>m⟩
  have kb:KeepB x [] s.heap h':=fun b o e n _ _=>.inl (k b o (fun w=>n (w ▸ .inr ⟨q,mP⟩)) e)
  have new:∀ b,Wd.own ⟨x.ρ,(P',q') :: x.κ,x.τ⟩ b→¬ x.own b→s.heap.get? b=none:=fun b o n=>o.elim (fun m=>absurd (.inl m) n) fun m=>m.elim fun r m=>(List.mem_cons.mp m).elim (fun e=>(Prod.mk.inj e).1 ▸ hP') fun m=>absurd (.inr ⟨r,m⟩) n
  have neP:∀ {a:Addr},a∈x.ρ→a≠P:=fun {a} m e=>(z.ofRho m).elim fun ob w=>(z.tab P q mP).elim fun ps t=>tab_ne (Option.some.inj (w.1.symm.trans (e ▸ t.1)) ▸ w.2)
  have oldP:∀ {r},(P',r)∉x.κ:=fun m=>z.fresh hP' (.inr ⟨_,m⟩)
  z.move le kb XOk.nil ht (Live.but k (t1.elim fun _ t=>⟨_,t.1⟩)) new (fun e r=>r.own fun o=>k e o fun w=>r.elim fun _ r=>r.elim fun _ r=>(z.tab P q mP).elim fun _ t=>by
      rw [w,t.1] at r
      exact nomatch (congrArg Obj.cls (Option.some.inj r.1)).trans r.2.1)
    (fun p m=>⟨(z.tok p m).1,Nat.lt_of_lt_of_le (z.tok p m).2 ht⟩) z.tfun
    (fun R a b m1 m2=>(List.mem_cons.mp m1).elim (fun e1=>(List.mem_cons.mp m2).elim (fun e2=>congrArg Prod.snd (e1.trans e2.symm)) fun m=>absurd ((Prod.mk.inj e1).1 ▸ m) oldP) fun m=>(List.mem_cons.mp m2).elim (fun e2=>absurd ((Prod.mk.inj e2).1 ▸ m) oldP) fun m'=>z.kfun R a b m m')
    z.len z.nd z.low (fun i o a e1 e2=>z.orKept XOk.nil le kb new (z.obj i o a e1 e2) fun o=>k a o (neP (List.mem_of_getElem? e2)))
    fun R r m=>(List.mem_cons.mp m).elim (fun e=>by
      have w1:=(Prod.mk.inj e).1
      have w2:=(Prod.mk.inj e).2
      subst w1 w2
      exact t2) fun m=>if hR:R=P then by subst hR;exact z.kfun R q r mP m ▸ t1 else (z.tab R r m).at le.2.1 (fun o=>k R o hR) (kb.code z XOk.nil)
theorem mkLam_wp {s:Shared} {M:Model} {clE:List (Str × Addr)} {mg:Str→Option Value} {name:Str} {fl:Nat} (hcl:closureFor scope env=pure clE) (hge0:env.globals=mainGlobals) (hg:s.heap.Ns mainGlobals mg) (hcode:env.code = .ref cc) (C:CodeHd s.heap cc P) (hP:s.heap.get? P=some (tabObj ps)) (ht:TriplesOk ps.toList)
    (hnf:codeAmong pos ps.toList=none) (hgP:mainGlobals≠P) (hb:s.heap.BuiltinsAt mg P)
    (h : ∀ c' P' ctv h' tk,Heap.ExtBut P s.heap h'→s.heap.objs.size≤c'→s.heap.objs.size≤P'→h'.CodeRec (.ref c') qual→h'.get? P=some (tabObj (ps++#[rawInt pos.line,rawInt pos.col,.ref c']))→CodeHd h' c' P'→h'.get? P'=some (tabObj #[]) →
      Q (.ref h'.objs.size) { s with heap:=h'.push (kla_obj name qual params body scope clE ((mg "__name__").getD .none) c' ctv),toks:=tk }) :
    wpAny M A (makeFunction name qual params (.expr body) scope env [] [] [] pos fl) Q E s:=hb.elim fun bm hb=>hb.elim fun ob hb=>by
  have hbm:=hb.1
  have hb:=hb.2
  rw [makeFunction_eq]
  simp only [List.zip_nil_right,List.filterMap_nil,List.isEmpty_nil,if_true,pure_bind]
  unfold makeTail
  rw [hcl,hge0]
  refine wpAny_bind (wpAny_pure ?_)
  cases clE with
  | nil =>
    refine wpIfPos rfl (wpAny_bind (wpAny_pure (wpAny_bind (wpAny_functionCodeX hcode (C.code hP ht) (C.tab hP) hnf fun c' h' tk hx hge hlt _ hrec htb w=>w.elim fun P' w=>?_))))
    have hg':=hg.extBut hx hgP
    refine wpAny_bind (wpAny_builtinsFor hg' hbm hb.1 (hx _ _ hb.2.2.1 hb.2.2.2.1) hb.2.2.2.2.1 hb.2.2.2.2.2.1 hb.2.2.2.2.2.2 (wpAny_bind (wpAny_nsGet hg' ?_)))
    exact wpAny_bind (wpAny_pure (wpAny_newObj_type (h c' P' .none h' tk hx hge w.1 hrec htb.2 (CodeHd.of w.2.1 w.2.2) w.2.2.2) (by size_fits)))
  | cons q r =>
    refine wpIfNeg Bool.false_ne_true (wpAny_bind (wpAny_newTextTuple ?_))
    have hk:∀ (oT:Obj) b o,s.heap.get? b=some o→(s.heap.push oT).get? b=some o:=fun _ b o e=>Heap.get?_push_of_some _ e
    have hsz:∀ (oT:Obj),s.heap.objs.size≤(s.heap.push oT).objs.size:=fun _=>Heap.size_push .. ▸ Nat.le_succ _
    refine wpAny_bind (wpAny_functionCodeX hcode ((C.keeps (hk _)).code (hk _ _ _ hP) ht) ((C.keeps (hk _)).tab (hk _ _ _ hP)) hnf fun c' h' tk hx hge hlt _ hrec htb w=>w.elim fun P' w=>?_)
    have hg':=(hg.push _).extBut hx hgP
    have hx':Heap.ExtBut P s.heap h':=fun b o hb' e=>hx b o hb' (hk _ _ _ e)
    refine wpAny_bind (wpAny_builtinsFor hg' hbm hb.1 (hx' _ _ hb.2.2.1 hb.2.2.2.1) hb.2.2.2.2.1 hb.2.2.2.2.2.1 hb.2.2.2.2.2.2 (wpAny_bind (wpAny_nsGet hg' ?_)))
    exact wpAny_bind (wpAny_pure (wpAny_newObj_type (h c' P' _ h' tk hx' (Nat.le_trans (hsz _) hge) (Nat.le_trans (hsz _) w.1) hrec htb.2 (CodeHd.of w.2.1 w.2.2) w.2.2.2) (by size_fits)))
theorem ev_lambda (hl:c.k.lam=true) (hd:∀ env,defaultsOf params env=([],[])) (hcl:closA scope.names c.k.cells []=some cl):Ev c l H (.Lambda params body scope pos) (.ob H.length) (H++[.fn (c.k.qual ++ "<lambda>") params body scope cl none]):=fun {x s A env} p Q E d=>by
  have z:=p.z
  have b:=p.r.b
  refine (closure_ok b.cells hcl).elim fun clE kc=>(p.r.code hl).elim fun cc C=>C.elim fun P C=>(z.tab _ _ C.2.2).elim fun ps T=>z.tp.ns.elim fun mg N=>N.elim fun mb N=>N.2.2.2.2.elim fun bm B=>B.elim fun ob B=>kla_eval (hd env) ?_
  have gP:=T.1
  have hq:env.qual=c.k.qual:=b.qual
  have BA:s.heap.BuiltinsAt mg P:=⟨bm,ob,B.1,B.2.1,B.2.2.1,(fun w=>by
    have e:=B.2.2.2.2.1
    rw [w,gP] at e
    exact nomatch (congrArg Obj.cls (Option.some.inj e)).trans B.2.2.2.2.2.1),B.2.2.2.2.1,B.2.2.2.2.2⟩
  have hgP:mainGlobals≠P:=fun w=>(Ns.dict N.1).elim fun _ w'=>by
    rw [w,gP] at w'
    exact w'.2.elim fun _ w2=>w2.elim fun _ w2=>nomatch (congrArg Obj.data (Option.some.inj w'.1)).trans w2
  have fin:∀ {y:Wd} {t:Shared} {tk:Nat} {c' P':Addr} {ctv:Value},Rl c.g y H t→Step [] x s y t→t.toks≤tk→CodeIn t.heap y.κ c' (c.k.qual ++ "<lambda>") P' →
      Q (.ref t.heap.objs.size) { t with heap:=t.heap.push (kla_obj "<lambda>" (c.k.qual ++ "<lambda>") params body scope clE ((mg "__name__").getD .none) c' ctv),toks:=tk }:=fun {y t tk c' P' ctv} z1 s1 ht ci =>
    have zz:=z1.add (h':=t.heap.push (kla_obj "<lambda>" (c.k.qual ++ "<lambda>") params body scope clE ((mg "__name__").getD .none) c' ctv)) (tk:=tk) (a:=t.heap.objs.size) (o:=.fn (c.k.qual ++ "<lambda>") params body scope cl none) (fun b o e=>Heap.get?_push_of_some _ e) (Heap.get?_none_of_le (Nat.le_refl _))
      (.mk (Heap.get?_push_size _ rfl) ((kc.2.mono s1.le.1).mono (y.le_add _).1) (ci.at (fun _ m=>m) fun b o e _ _=>Heap.get?_push_of_some _ e) rfl) ht
    d (s1.trW zz.2) zz.1 ⟨_,z1.get _,rfl⟩
  rw [hq] at C T ⊢
  cases hf:codeAmong pos ps.toList with
  | some cv=>exact (T.2.2 _ _ hf).elim fun c' w=>w.elim fun P' w=>wpAny_with_toks (Nat.le_refl _) (kla_makeFunctionHit kc.1 b.glob N.1 C.1 C.2.1 gP T.2.1 (hf.trans (congrArg some w.1)) BA fun ctv h' tk hk hsz hle =>
      have zz:=z.stay (h':=h') (tk:=tk) hk hle
      fin (t:={ s with heap:=h',toks:=tk }) zz.1 zz.2 (Nat.le_refl _) (w.2.at (fun _ m=>m) fun b o e _ _=>hk b o e))
  | none =>
    refine wpAny_with_toks (Nat.le_refl _) (mkLam_wp kc.1 b.glob N.1 C.1 C.2.1 gP T.2.1 hf hgP BA fun c' P' ctv h' tk hk hc' hP' hrec gP2 hC gP' hle=>?_)
    have kcc:KeepC s.heap h':=fun b o e hc _=>hk b o (fun w=>by
      rw [w,gP] at e
      exact nomatch (congrArg Obj.cls (Option.some.inj e)).trans hc) e
    have ci:CodeIn h' ((P',(c.k.qual ++ "<lambda>") ++ ".<locals>.") :: x.κ) c' (c.k.qual ++ "<lambda>") P':=⟨hrec,hC,List.mem_cons_self⟩
    have zz:=z.addTab (h':=h') (tk:=tk) (P':=P') (q':=(c.k.qual ++ "<lambda>") ++ ".<locals>.") C.2.2 hk
      ⟨_,gP2,(by rw [Array.toList_append];exact TriplesOk_snoc _ _ _ _ T.2.1),fun pos' cv hcv=>(codeAmong_app _ T.2.1 (by rw [Array.toList_append] at hcv;exact hcv)).elim (fun e=>(T.2.2 _ _ e).imp fun c2 w=>w.imp fun P2 w=>⟨w.1,w.2.at (fun _ m=>List.mem_cons_of_mem _ m) kcc⟩) fun e=>⟨c',P',e,ci⟩⟩
      ⟨_,gP',trivial,fun pos' cv e=>nomatch e⟩ (Heap.get?_none_of_le hP') hle
    exact fin (t:={ s with heap:=h',toks:=tk }) zz.1 zz.2 (Nat.le_refl _) ci
end
section
variable {c:Cx} {g:Gx} {x y:Wd} {H H':AHeap} {s t:Shared} {A:Around} {v a b f:AV} {n:Nat} {hd:Bool} {i:Nat} {xs:List AV} {l:List Int} {m:Int} {vs:List Value} {fv:Value} {w:Value}
theorem Call.c1 (hf:∀ x w,VR x f w→w=fv) (k:∀ {x s A u Q E},Rl g x H s→Amb x s.heap A n hd→VR x a u→Ok g VR x s v H' Q→wpAny g.M A (PySem.call fv [u]) Q E s):Call g n hd H f [a] [] v H':=fun z am rf rv rk Q E d =>
  (hf _ _ rf).symm ▸ rk.nil_ (P:=fun ks=>wpAny _ _ (PySem.call _ _ ks) _ _ _) (rv.cons_ (P:=fun us=>wpAny _ _ (PySem.call _ us) _ _ _) fun u _ r1 r2=>r2.nil_ (P:=fun us=>wpAny _ _ (PySem.call _ (u :: us)) _ _ _) (k z am r1 d))
theorem Call.c2 (hf:∀ x w,VR x f w→w=fv) (k:∀ {x s A u w Q E},Rl g x H s→Amb x s.heap A n hd→VR x a u→VR x b w→Ok g VR x s v H' Q→wpAny g.M A (PySem.call fv [u,w]) Q E s):Call g n hd H f [a,b] [] v H':=fun z am rf rv rk Q E d =>
  (hf _ _ rf).symm ▸ rk.nil_ (P:=fun ks=>wpAny _ _ (PySem.call _ _ ks) _ _ _) (rv.cons_ (P:=fun us=>wpAny _ _ (PySem.call _ us) _ _ _) fun u _ r1 r2 =>
    r2.cons_ (P:=fun us=>wpAny _ _ (PySem.call _ (u :: us)) _ _ _) fun w _ r2 r3=>r3.nil_ (P:=fun us=>wpAny _ _ (PySem.call _ (u :: w :: us)) _ _ _) (k z am r1 r2 d))
theorem Ok.int1 {Q:Post Value} (d:Ok g VR x s (.int m) H Q) (z:Rl g x H s):Q (.int m (s.toks+1)) { s with toks:=s.toks+1+1 }:=Ok.int (Ok.mv (z.toks (s.toks+1)).2 d) (z.toks (s.toks+1)).1
theorem lt63 {n:Nat} (h:n < 1000):(n:Int) < 2 ^ 63:=Int.lt_trans (Int.ofNat_lt.mpr h) (by decide)
theorem c_len (h:H[i]? = some (.list xs)) (hl:xs.length < 1000):Call g n hd H (.bi "len") [.ob i] [] (.int xs.length) H:=by
  refine Call.c1 (f:=.bi "len") (fun _ _ h=>h) ?_
  exact fun {x s A u Q E} z _ r d =>
      z.list h r (P:=fun u=>wpAny _ _ (PySem.call _ [u]) _ _ _) fun a vs k _ g1 q1=>by
        have e:vs.toArray.size=xs.length:=q1.length.symm
        refine call_len_list (isList g1) (e ▸ lt63 hl) ?_
        exact e ▸ d.int1 z
theorem c_lenb {xs:List Int} (hl:xs.length < 1000):Call g n hd H (.bi "len") [.bytes xs] [] (.int xs.length) H:=by
  refine Call.c1 (f:=.bi "len") (fun _ _ h=>h) ?_
  exact fun {x s A u Q E} z _ r d =>
      r.elim fun b r=>r.elim fun t r=>r.1 ▸ by
        have e:b.size=xs.length:=r.2 ▸ (List.length_map _).symm
        refine len_bytes (e ▸ Nat.le_trans (Nat.le_of_lt hl) (by decide)) ?_
        exact e ▸ d.int1 z
theorem c_isb {xs:List Int}:Call g n hd H (.bi "isinstance") [.bytes xs,.ty "bytes"] [] (.bool true) H:=by
  refine Call.c2 (f:=.bi "isinstance") (fun _ _ h=>h) ?_
  exact fun {x s A u w Q E} z _ r r2 d =>
      r.elim fun b r=>r.elim fun t r=>r.1 ▸ (show w = .type "bytes" from r2) ▸ call_isinstance (isinstance_true (Tx:="bytes") PySem.F.isi_meta_bytes (by rw [isSubtype_type];kernel_rfl)) ⟨rfl,d.bool z⟩
theorem c_list (h:H[i]? = some (.list xs)) (hl:xs.length≤1000):Call g n hd H (.ty "list") [.ob i] [] (.ob H.length) (H++[.list xs]):=by
  refine Call.c1 (f:=.ty "list") (fun _ _ h=>h) ?_
  exact fun {x s A u Q E} z _ r d =>
      z.list h r (P:=fun u=>wpAny _ _ (PySem.call _ [u]) _ _ _) fun a vs k _ g1 q1=>call_list_seq a (.inl rfl) g1 rfl rfl (fun h' c' hk hD =>
        have zz:=z.add (tk:=s.toks) (a:=s.heap.objs.size) (o:=.list xs) hk (Heap.get?_none_of_le (Nat.le_refl _)) ⟨vs,c',hD,q1.mono (x.le_add _)⟩
        d zz.2 zz.1 ⟨_,z.get _,rfl⟩) (size_le q1 hl)
theorem VRs.ints {l:List Int}:∀ {vs:List Value},VRs x (l.map AV.int) vs→IntsAre vs l:=by
  induction l with
  | nil=>exact fun r=>r.nil_ (P:=fun vs=>IntsAre vs []) .nil
  | cons i l ih=>exact fun r=>r.cons_ (P:=fun vs=>IntsAre vs (i :: l)) fun u us r q=>r.elim fun t r=>r.2 ▸ .cons i t (ih q)
theorem bytes_back {xs:List Int} (h:∀ n∈xs,0≤n∧n < 256):(byteArr xs).toList.map (fun u=>(u.toNat:Int))=xs:=by
  show (xs.map fun n=>n.toNat.toUInt8).map _=xs
  rw [List.map_map]
  refine (List.map_congr_left fun n hn=>?_).trans (List.map_id xs)
  have h1:=h n hn
  show (((n.toNat.toUInt8).toNat:Nat):Int)=n
  rw [UInt8.toNat_ofNat_of_lt' ((Int.toNat_lt h1.1).mpr h1.2)]
  exact Int.toNat_of_nonneg h1.1
theorem c_bytes (h:H[i]? = some (.list (l.map .int))) (hl:l.length≤1000) (hb:∀ n∈l,0≤n∧n < 256):Call g n false H (.ty "bytes") [.ob i] [] (.bytes l) H:=by
  refine Call.c1 (f:=.ty "bytes") (fun _ _ h=>h) ?_
  exact fun {x s A u Q E} z am r d =>
      z.list h r (P:=fun u=>wpAny _ _ (PySem.call _ [u]) _ _ _) fun a vs k _ g1 q1=>wpAny_with_toks (Nat.le_refl _) (call_bytes_ints (isList g1) q1.ints hb (size_le q1 (Nat.le_trans (Nat.le_of_eq (List.length_map _)) hl)) am.calm fun h' t k hk hle =>
        d (z.stay (h':=h') (tk:=k) hk hle).2 (z.stay (h':=h') (tk:=k) hk hle).1 ⟨_,t,rfl,bytes_back hb⟩)
theorem c_str {q:Str} (h:H[i]? = some (.exc q)):Call g n hd H (.ty "str") [.ob i] [] (.str q) H:=by
  refine Call.c1 (f:=.ty "str") (fun _ _ h=>h) ?_
  exact fun {x s A u Q E} z am r d=>r.elim fun a r=>r.2 ▸
      (z.obj _ _ _ h r.1).rec fun {vs t tok k} g1 h0 h2 gt _=>Mine.P.str_of_exc_one PySem.F.excStr_ValueError (Nat.lt_of_le_of_lt (Nat.add_le_add_left (by decide) _) am.room) ⟨_,vs,g1,rfl,rfl,h0⟩ ⟨_,k,gt,rfl,rfl⟩ (d.here z ⟨tok,rfl⟩)
theorem VRs.getR {a:List AV} {v:List Value} (r:VRs x a v):∀ {i:Nat} {y:Value},v[i]? = some y→∃ b,a[i]? = some b∧VR x b y:=by
  induction r with
  | nil=>exact fun e=>nomatch e
  | cons p _ q=>exact fun {i} _ e=>match i,e with
    | 0,e=>⟨_,rfl,Option.some.inj e ▸ p⟩
    | i + 1,e=>q (i:=i) e
theorem num_at {ys:Array (Int × Tok)} {k:Nat} {q:Int} (e:l=ys.toList.map (·.1)) (h:l[k]? = some q):numAt ys k=q∧k≤ys.size - 1:=
  ⟨by rw [numAt_eq,←e,List.getD_eq_getElem?_getD,h];rfl,Nat.le_sub_one_of_lt (by have h1:=(List.getElem?_eq_some_iff.mp h).1;rw [e,List.length_map] at h1;exact h1)⟩
theorem best_of {ys:Array (Int × Tok)} {k:Nat} (r:VRs x (l.map .int) vs) (e:vs.toArray=intItems ys) (hv:(intItems ys)[k]? = some w) (hq:∀ q,l[k]? = some q→q=m):VR x (.int m) w:=
  (r.getR (i:=k) (y:=w) ((List.getElem?_toArray).symm.trans (e ▸ hv))).elim fun b h=>by
    rw [List.getElem?_map] at h
    exact (Option.map_eq_some_iff.mp h.1).elim fun q hh=>hq q hh.1 ▸ hh.2 ▸ h.2
theorem best (z:Rl g x H s) (h:H[i]? = some (.list (l.map .int))) (hm:m∈l) (r:VR x (.ob i) w) {P:Value→Prop}
    (k:∀ a vs ys,s.heap.IsList a (intItems ys)→0 < ys.size→vs.toArray=intItems ys→VRs x (l.map .int) vs→l=ys.toList.map (·.1)→P (.ref a)):P w:=
  z.list h r (P:=P) fun a vs _ _ g1 q1=>q1.ints.allInts.items.elim fun ys e=>by
    have hns:l=ys.toList.map (·.1):=q1.ints.numsOf.symm.trans (by rw [←nums_intItems,←e])
    exact k a vs ys (e ▸ isList g1) (Nat.lt_of_lt_of_eq (List.length_pos_of_mem hm) ((congrArg List.length hns).trans (List.length_map _))) e q1 hns
theorem c_max (h:H[i]? = some (.list (l.map .int))) (hm:m∈l) (hle:∀ q∈l,q≤m):Call g n false H (.bi "max") [.ob i] [] (.int m) H:=by
  refine Call.c1 (f:=.bi "max") (fun _ _ h=>h) ?_
  exact fun {x s A u Q E} z am r d =>
      best z h hm r (P:=fun u=>wpAny _ _ (PySem.call _ [u]) _ _ _) fun a vs ys h1 h2 h3 h4 h5=>wpAny_with_toks (Nat.le_refl _) (max_intList am.calm h1 h2 fun v h' tk hv hk hl=>
        d (z.stay (h':=h') (tk:=tk) hk hl).2 (z.stay (h':=h') (tk:=tk) hk hl).1 (best_of h4 h3 hv fun q hq=>Int.le_antisymm (hle q (List.mem_of_getElem? hq))
          ((List.getElem?_of_mem hm).elim fun j hj=>(num_at h5 hj).1 ▸ (num_at h5 hq).1 ▸ (argBest_gt (numAt ys) (ys.size - 1)).2 j (num_at h5 hj).2)))
theorem c_min (h:H[i]? = some (.list (l.map .int))) (hm:m∈l) (hle:∀ q∈l,m≤q):Call g n false H (.bi "min") [.ob i] [] (.int m) H:=by
  refine Call.c1 (f:=.bi "min") (fun _ _ h=>h) ?_
  exact fun {x s A u Q E} z am r d =>
      best z h hm r (P:=fun u=>wpAny _ _ (PySem.call _ [u]) _ _ _) fun a vs ys h1 h2 h3 h4 h5=>wpAny_with_toks (Nat.le_refl _) (min_intList am.calm h1 h2 fun v h' tk hv hk hl=>
        d (z.stay (h':=h') (tk:=tk) hk hl).2 (z.stay (h':=h') (tk:=tk) hk hl).1 (best_of h4 h3 hv fun q hq=>Int.le_antisymm
          ((List.getElem?_of_mem hm).elim fun j hj=>(num_at h5 hj).1 ▸ (num_at h5 hq).1 ▸ (argBest_lt (numAt ys) (ys.size - 1)).2 j (num_at h5 hj).2) (hle q (List.mem_of_getElem? hq))))
end
end Mine
namespace Mine
open PySem PySem.Calls PyProof.Rows PySem.W Builtin Builtin.Bytes
theorem ba_mro:mroOf (.type "bytearray")=pure [.type "bytearray",.type "object"]:=by rw [mroOf_type];kernel_rfl
theorem ba_lookup_new:typeLookup (.type "bytearray") "__new__" = pure (some (.builtin "bytearray.__new__")):=by rw [typeLookup_type,builtinLookup_eq_fast];kernel_rfl
theorem ba_slot_init:Slot "bytearray" "__init__" "bytearray.__init__":=
  .of (owner:="bytearray") (n:="__init__") (by rw [typeLookup_type,builtinLookup_eq_fast];kernel_rfl) (by decide +kernel) (by decide +kernel) (by decide +kernel)
    (by first | exact .inl (by decide +kernel) | exact .inr (by decide +kernel)) (by rw [isSubtype_type];kernel_rfl)
theorem ba_called:TypeCalled "bytearray" "bytearray.__new__" "bytearray.__init__":=
  ⟨by decide +kernel,by decide +kernel,⟨_,_,ba_mro⟩,madeBy_type ba_mro ba_lookup_new (by decide +kernel),by decide +kernel,by rw [isSubtype_type];kernel_rfl,ba_slot_init⟩
theorem ba_typeCall (a:Value):checkTypeCall "bytearray" ⟨[a],[]⟩=pure ():=by kernel_rfl
theorem ba_newCall (a:Value):checkBuiltinCall "bytearray.__new__" ⟨[.type "bytearray",a],[]⟩=pure ():=by kernel_rfl
theorem ba_entry_new:entryFor table "bytearray.__new__" = some Builtin.«list.__new__»:=entryFor_alias (id':="list.__new__") (by kernel_rfl) (by first | rfl | decide +kernel) (by decide +kernel) (by kernel_rfl)
theorem ba_entry_init:entryFor table "bytearray.__init__" = some Builtin.«bytearray.__init__»:=by first | exact entryFor_of_fast (by kernel_rfl) | exact entryFor_of_tree (by kernel_rfl)
theorem ba_args_init (o a:Value):argsOk "bytearray.__init__" ⟨[o,a],[]⟩:=by unfold argsOk;kernel_rfl
theorem ba_sub:isSubtype (.type "bytearray") (.type "bytearray")=pure true:=by rw [isSubtype_type];kernel_rfl
set_option maxRecDepth 1000000 in
set_option maxHeartbeats 4000000 in
theorem ba_owner:("bytearray.__new__".splitOn ".__new__").headD "" = "bytearray":=by simp +decide [String.splitOn,String.splitOnAux]
section
variable {prog:Program} {w:World} {x:Wd} {H:AHeap} {s:Shared} {A:Around} {n:Nat} {hd:Bool} {E:Value→Shared→Prop} {g:Gx}
theorem ba_new (a:Value) {Q₁:Value→Shared→Prop}
    (h:Q₁ (.ref s.heap.objs.size) { s with heap:=s.heap.push { cls:=.type "bytearray",data:=.bytearray #[] } }) :
    PySem.codeAny (model prog w) A (.call (.builtin "bytearray.__new__") ⟨[.type "bytearray",a],[]⟩) (wants Q₁ E) s:=by
  refine PySem.codeAny_of_tree ?_
  show PySem.wpAny _ A.in1 (do checkBuiltinCall "bytearray.__new__" ⟨[.type "bytearray",a],[]⟩;again (.builtin "bytearray.__new__" ⟨[.type "bytearray",a],[]⟩)) _ _ s
  refine PySem.wpAny_bind (PySem.wpAny_of_eq (ba_newCall a) (PySem.wpAny_pure ⟨plainId_quiet (by decide +kernel) _,codeAny_builtin_stack ba_entry_new rfl fun p st=>?_⟩))
  rw [Around.under_plainId (by decide +kernel) _]
  have hsub:=ba_sub
  have hown:=ba_owner
  obtain ⟨hp,g,d,tk,os⟩:=s
  simp only [hown]
  wp_walk
  exact h
theorem ba_call {args:List Value} {Q Q₁:Value→Shared→Prop}
    (hct:checkTypeCall "bytearray" ⟨args,[]⟩=pure ())
    (hnew:codeAny (model prog w) A.in1 (.call (.builtin "bytearray.__new__") ⟨.type "bytearray" :: args,[]⟩) (wants Q₁ E) s)
    (hnext:∀ obj s₁,Q₁ obj s₁→s₁.TypeIs obj "bytearray"∧argsOk "bytearray.__init__" ⟨obj :: args,[]⟩ ∧
      wpAny (model prog w) A.in1.in1 (Builtin.«bytearray.__init__» ⟨obj :: args,[]⟩) (fun fin s'=>fin = .done (.ret .none)∧Q obj s') E s₁) :
    wpAny (model prog w) A (call (.type "bytearray") args) Q E s:=by
  obtain ⟨c,tl,hmro⟩:=ba_called.mro
  have hmade:=ba_called.made
  have hsub:=ba_called.sub
  refine wpAny_call (codeAny_of_tree ?_)
  show wpAny _ _ (callAny (.type "bytearray") _) _ _ _
  refine wpAny_pure ⟨Code.quiet_builtin _ (by decide +kernel),codeAny_builtin F.entry_type_call ?_⟩
  rw [Around.under_plain (weight_type_call_type "bytearray" args []) rfl]
  unfold Builtin.«type.__call__»
  have h1:=ba_called.notType
  have h2:=ba_called.canCreate
  refine wpIfNeg (Bool.eq_false_iff.mp h1) ?_
  refine wpIfNeg (by rw [h2];decide) ?_
  refine wpAny_bind (wpAny_of_eq hct ?_)
  refine wpAny_bind (wpAny_of_eq hmro ?_)
  refine wpIfNeg (by simp) ?_
  refine wpAny_bind (wpAny_of_eq hmade ?_)
  refine wpAny_bind (wpAny_pure ?_)
  refine wpAny_bind (wpAny_holding (wpAny_call (codeAny_mono hnew fun r s₁ hr=>?_)))
  cases r with
  | error e=>exact hr
  | ok fl =>
    cases fl with
    | ret obj =>
      obtain ⟨hT,hok,hsi⟩:=hnext _ _ hr
      refine wpAny_bind (wpAny_isInstance hT hsub ?_)
      refine wpIfNeg (by decide) ?_
      refine wpAny_bind (wpAny_holding (wpAny_callSpecial?_slot hT ba_slot_init (wpAny_call_entry ba_slot_init hT ba_entry_init (wpAny_mono hsi (fun fin s' h'=>?_) fun _ _ h'=>h') hok)))
      obtain ⟨rfl,hq⟩:=h'
      refine ⟨_,rfl,?_⟩
      refine wpIfNeg (by decide) ?_
      exact wpAny_pure hq
    | _ => exact hr.elim
theorem exported_wp {v:Value} {M:Model} {Q:Bool→Shared→Prop} (h:Q false s):wpAny M A (exported v) Q E s:=fun Γ p hΓ g=>by
  unfold exported
  have fin:∀ b,b=false→Q b s:=fun b hb=>hb ▸ h
  refine fin (List.any ((Γ.code,p) :: Γ.below) _) (List.any_eq_false.mpr fun y hy=>Bool.eq_false_iff.mp ?_)
  have hb:badCode y.1=false:=(List.mem_cons.mp hy).elim (fun e=>e ▸ g.1) (g.2 y)
  obtain ⟨c,p⟩:=y
  cases c with
  | builtin id args =>
    obtain ⟨l,kw⟩:=args
    have hb:badIds.contains id=false:=hb
    have h (q:String) (m:badIds.contains q=true):¬ id=q:=fun e=>Bool.noConfusion (hb.symm.trans (congrArg badIds.contains e |>.trans m))
    have h1:=h "bytearray.__contains__" (by decide +kernel)
    have h2:=h "bytearray.__mod__" (by decide +kernel)
    have h3:=h "bytearray.__rmod__" (by decide +kernel)
    have h4:=h "_struct.pack_into.held" (by decide +kernel)
    have h5:=h "bytearray.find.held" (by decide +kernel)
    have h6:decodersThatHold.contains id=false:=(Bool.or_eq_false_iff.mp ((List.contains_append (l₁:=["bytearray.__contains__","bytearray.__mod__","bytearray.__rmod__","_struct.pack_into.held","bytearray.find.held"])).symm.trans hb)).2
    delta exported.match_1
    dsimp only
    delta exported._sparseCasesOn_1
    refine (dif_neg h1).trans ?_
    refine (dif_neg h2).trans ?_
    refine (dif_neg h3).trans ?_
    refine (dif_neg h4).trans ?_
    refine (dif_neg h5).trans ?_
    cases l with
    | nil=>rfl
    | cons u r=>exact (congrArg (Bytes.sameRef u v && ·) h6).trans (Bool.and_false _)
  | _ => rfl
theorem ba_bind (v:Value):Builtin.Bytes.bindOptional "bytearray.__init__" "bytearray" ["source","encoding","errors"] [v] []=pure [some v,none,none]:=by kernel_rfl
theorem ba_release:typeLookup (.type "bytearray") "__release_buffer__" = pure (some (.builtin "bytearray.__release_buffer__")):=by rw [typeLookup_type,builtinLookup_eq_fast];kernel_rfl
theorem ba_write {a:Addr} {b:Array UInt8} {f:Array UInt8→Array UInt8} {Q:Unit→Shared→Prop} {M:Model} (ho:s.heap.get? a=some { cls:=.type "bytearray",data:=.bytearray b }) (hz:(f b).size≤1000)
    (h:Q () { s with heap:=s.heap.update a (Obj.mapBytearray f) }):wpAny M A (Builtin.Bytes.write (.ref a) f) Q E s:=by
  show wpAny M A (updateBytearray a f) Q E s
  unfold updateBytearray
  refine wpAny_bind (wpAny_load ho ?_)
  show wpAny _ _ (update a (Obj.mapBytearray f) >>= fun _=>lookBehind a) _ _ _
  refine wpAny_bind (wpAny_update ho ?_)
  have h2:(s.heap.update a (Obj.mapBytearray f)).get? a=some { cls:=.type "bytearray",data:=.bytearray (f b) }:=Heap.get?_update_self (Obj.mapBytearray f) ho rfl
  refine up (wpAny_lookBehind h2 ?_ h)
  show (if (f b).size > sizeLine then some "bytearray:memory" else none)=none
  rw [if_neg (by rw [sizeLine_eq];omega)]
theorem ba_init {a:Addr} {n:Int} {t:Tok} (ho:s.heap.get? a=some { cls:=.type "bytearray",data:=.bytearray #[] }) (h0:0≤n) (h1:n < 100) {Q:Value→Shared→Prop}
    (h:∀ h',Heap.SameBut a s.heap h'→h'.get? a=some { cls:=.type "bytearray",data:=.bytearray (Array.replicate n.toNat 0) }→Q (.ref a) { s with heap:=h' }) :
    wpAny (model prog w) A (Builtin.«bytearray.__init__» ⟨[.ref a,.int n t],[]⟩) (fun fin s'=>fin = .done (.ret .none)∧Q (.ref a) s') E s:=by
  have hT:s.TypeIs (.ref a) "bytearray":=⟨_,ho,rfl⟩
  unfold Builtin.«bytearray.__init__»
  refine wpAny_bind ?_
  unfold ownRelease slotIsOwn
  refine wpAny_bind (wpAny_bind (wpAny_specialOf hT ba_release ?_))
  refine wpIfNeg (by decide +kernel) ?_
  rw [show "bytearray.__release_buffer__".dropRight ("__release_buffer__".length+1) = "bytearray" by decide +kernel]
  refine wpAny_isInstance hT ba_sub ?_
  refine wpAny_pure ?_
  refine wpIfNeg (by decide) ?_
  refine wpAny_bind (wpAny_of_eq (ba_bind _) ?_)
  refine wpAny_bind (wpAny_of_eq (a:=()) rfl ?_)
  refine wpAny_bind (wpAny_of_eq (a:=()) rfl ?_)
  refine wpAny_bind (m:=exported (.ref a) <||> _) ?_
  refine wpAny_bind (exported_wp ?_)
  unfold exportsOf
  refine wpAny_bind (wpAny_bind (wpAny_load ho ?_))
  refine wpAny_pure (wpAny_pure ?_)
  refine wpIfNeg (by decide) ?_
  have s1:=Heap.SameBut.update s.heap a (Obj.mapBytearray fun _=>#[])
  have h2:(s.heap.update a (Obj.mapBytearray fun _=>#[])).get? a=some { cls:=.type "bytearray",data:=.bytearray #[] }:=Heap.get?_update_self (Obj.mapBytearray fun _=>#[]) ho rfl
  refine wpAny_bind (ba_write ho (by decide) ?_)
  refine wpAny_bind (wpAny_of_eq (a:=none) rfl ?_)
  refine wpIfNeg (by decide) ?_
  refine wpAny_bind (wpAny_of_eq (a:=()) rfl ?_)
  refine wpAny_bind (wpAny_specialOf (typeIs_int _ n t) F.slot_int_index.lookup ?_)
  refine wpIfPos (by rfl) ?_
  refine wpAny_bind (wpAny_attempt (wpAny_of_eq (rfl:asIndex (.int n t)=pure n) ?_))
  refine wpIfNeg (by simp [fitsIndex];omega) ?_
  refine wpIfNeg (by omega) ?_
  refine wpIfNeg (by simp;omega) ?_
  refine wpIfNeg (by simp [tooLong,sizeLine_eq];omega) ?_
  refine wpAny_bind (wpAny_rule ?_)
  by_cases hn:n > 0
  · refine wpIfPos hn ?_
    have s2:=Heap.SameBut.update (s.heap.update a (Obj.mapBytearray fun _=>#[])) a (Obj.mapBytearray fun _=>Array.replicate n.toNat 0)
    refine wpAny_bind (ba_write (s:={ s with heap:=s.heap.update a (Obj.mapBytearray fun _=>#[]) }) h2 (by simp;omega) ?_)
    exact wpAny_pure ⟨rfl,h _ (s1.trans s2) (Heap.get?_update_self (Obj.mapBytearray fun _=>Array.replicate n.toNat 0) h2 rfl)⟩
  · refine wpIfNeg hn ?_
    have:n=0:=by omega
    subst this
    exact wpAny_pure ⟨rfl,h _ s1 (by simpa using h2)⟩
theorem c_barr {m:Int} (h0:0≤m) (h1:m < 100):Call g n hd H (.ty "bytearray") [.int m] [] (.ob H.length) (H++[.barr (List.replicate m.toNat 0)]):=by
  refine Call.c1 (f:=.ty "bytearray") (fun _ _ h=>h) ?_
  exact fun {x s A u Q E} z am r d=>r.elim fun t r=>r.2 ▸ by
    refine ba_call (ba_typeCall _) (upC (ba_new (Q₁:=fun obj s₁=>obj = .ref s.heap.objs.size∧s₁={ s with heap:=s.heap.push { cls:=.type "bytearray",data:=.bytearray #[] } }) _ ⟨rfl,rfl⟩)) fun obj s₁ h₁=>?_
    rw [h₁.1,h₁.2]
    have ho:(s.heap.push { cls:=.type "bytearray",data:=.bytearray #[] }).get? s.heap.objs.size=some { cls:=.type "bytearray",data:=.bytearray #[] }:=Heap.get?_push_size _ rfl
    refine ⟨⟨_,ho,rfl⟩,ba_args_init _ _,ba_init ho h0 h1 fun h' hs gg=>?_⟩
    have zz:=z.add (h':=h') (tk:=s.toks) (a:=s.heap.objs.size) (o:=.barr (List.replicate m.toNat 0)) (fun b o e=>(hs.2 b (Nat.ne_of_lt (Heap.lt_size e))).trans (Heap.get?_push_of_some _ e)) (Heap.get?_none_of_le (Nat.le_refl _)) ⟨_,gg,by simp⟩
    exact d zz.2 zz.1 ⟨_,z.get _,rfl⟩
end
end Mine
namespace MineL
open PySem PySem.Calls PyProof.Rows PySem.W Builtin.Bytes
theorem ba_no_bytes:typeLookup (.type "bytearray") "__bytes__" = pure none:=by rw [typeLookup_type,builtinLookup_eq_fast];kernel_rfl
theorem ba_no_index:typeLookup (.type "bytearray") "__index__" = pure none:=by rw [typeLookup_type,builtinLookup_eq_fast];kernel_rfl
theorem ba_buffer:typeLookup (.type "bytearray") "__buffer__" = pure (some (.builtin "bytearray.__buffer__")):=by rw [typeLookup_type,builtinLookup_eq_fast];kernel_rfl
section
variable {prog:Program} {w:World} {s:Shared} {A:Around} {E:Value→Shared→Prop}
theorem if_neg' {α:Type} {M:Model} {c:Prop} [Decidable c] {a b:Sem α} {Q:α→Shared→Prop} (hc:¬ c) (h:wpAny M A b Q E s):wpAny M A (if c then a else b) Q E s:=by rw [if_neg hc];exact h
theorem if_pos' {α:Type} {M:Model} {c:Prop} [Decidable c] {a b:Sem α} {Q:α→Shared→Prop} (hc:c) (h:wpAny M A a Q E s):wpAny M A (if c then a else b) Q E s:=by rw [if_pos hc];exact h
theorem own_of {l:Addr} {T nm id:String} {M:Model} {Q:Bool→Shared→Prop} (hT:s.TypeIs (.ref l) T) (hl:typeLookup (.type T) nm=pure (some (.builtin id))) (h1:(!id.endsWith ("."++nm))=false) (h2:id.dropRight (nm.length+1)=T) (h3:isSubtype (.type T) (.type T)=pure true)
    (h:Q true s):wpAny M A (slotIsOwn (.ref l) nm) Q E s:=by
  unfold slotIsOwn
  refine wpAny_bind (wpAny_specialOf hT hl ?_)
  dsimp only
  rw [h1,h2]
  exact wpAny_isInstance hT h3 h
theorem bytes_new {l:Addr} {b:Array UInt8} {Q:Value→Shared→Prop} (ho:s.heap.get? l=some { cls:=.type "bytearray",data:=.bytearray b }) (hz:b.size≤1000)
    (hQ:∀ t k,Q (.bytes b t) { s with toks:=k }):codeAny (model prog w) A (.call (.builtin "bytes.__new__") ⟨[.type "bytes",.ref l],[]⟩) (wants Q E) s:=by
  refine codeAny_of_tree ?_
  show wpAny _ A.in1 (do checkBuiltinCall "bytes.__new__" ⟨[.type "bytes",.ref l],[]⟩;again (.builtin "bytes.__new__" ⟨[.type "bytes",.ref l],[]⟩)) _ _ s
  refine wpAny_bind (wpAny_of_eq (F.bm_newCall _) (wpAny_pure ⟨plainId_quiet F.bm_plain _,codeAny_builtin F.bm_entry ?_⟩))
  rw [Around.under_plainId F.bm_plain _]
  have hT:s.TypeIs (.ref l) "bytearray":=⟨_,ho,rfl⟩
  unfold Builtin.«bytes.__new__»
  refine wpAny_bind (wpAny_of_eq (a:=true) rfl ?_)
  refine if_neg' (by decide) ?_
  refine wpAny_bind (wpAny_of_eq F.bm_sub ?_)
  refine if_neg' (by decide) ?_
  refine wpAny_bind (wpAny_of_eq (F.bm_bind _) ?_)
  refine wpAny_bind (wpAny_of_eq (a:=()) rfl ?_)
  refine wpAny_bind (wpAny_of_eq (a:=()) rfl ?_)
  refine if_neg' (by decide) ?_
  refine wpAny_bind (wpAny_specialOf hT ba_no_bytes ?_)
  refine wpAny_bind (wpAny_bind ?_)
  show wpAny _ _ (load l >>= _) _ _ _
  refine wpAny_bind (wpAny_load ho ?_)
  refine wpAny_pure (wpAny_pure ?_)
  refine if_neg' (by decide) ?_
  refine wpAny_bind (wpAny_specialOf hT ba_no_index ?_)
  refine if_pos' (by rfl) ?_
  first
    | show wpAny _ _ (buffer? "bytes.__new__" (.ref l) true >>= _) _ _ _
    | (refine wpAny_bind ?_;show wpAny _ _ (buffer? "bytes.__new__" (.ref l) true >>= _) _ _ _)
  refine wpAny_bind ?_
  unfold buffer?
  refine wpAny_bind (wpAny_specialOf hT ba_buffer ?_)
  refine wpAny_bind (own_of hT ba_buffer (by decide +kernel) (by decide +kernel) Mine.ba_sub ?_)
  refine if_neg' (by decide) ?_
  refine wpAny_bind (wpAny_specialOf hT ba_buffer ?_)
  refine wpAny_bind ?_
  unfold ownRelease
  refine wpAny_bind (own_of hT Mine.ba_release (by decide +kernel) (by decide +kernel) Mine.ba_sub (wpAny_pure ?_))
  refine if_neg' (by decide) ?_
  unfold payload payload?
  refine wpAny_bind (wpAny_bind (wpAny_bind (wpAny_load ho (wpAny_pure (wpAny_pure ?_)))))
  refine wpAny_pure ?_
  refine wpAny_bind (wpAny_rule ?_)
  refine wpAny_bind (wpAny_mkBytes ?_ (by rw [sizeLine_eq];omega))
  show wpAny _ _ (if (Value.type "bytes" == Value.type "bytes")=true then _ else _) _ _ _
  refine if_pos' (by decide) ?_
  first
    | exact wpAny_pure (hQ _ _)
    | exact wpAny_bind (wpAny_pure (wpAny_pure (hQ _ _)))
theorem call_bytes_barr {l:Addr} {b:Array UInt8} {Q:Value→Shared→Prop} (ho:s.heap.get? l=some { cls:=.type "bytearray",data:=.bytearray b }) (hz:b.size≤1000)
    (hQ:∀ t k,Q (.bytes b t) { s with toks:=k }):wpAny (model prog w) A (call (.type "bytes") [.ref l]) Q E s:=by
  refine callType_codes (Q₁:=fun obj s₁=>s₁.TypeIs obj "bytes"∧Q obj s₁) F.bm_called (F.bm_typeCall _) F.entry_object_init
    (bytes_new ho hz fun t k=>⟨PySem.W.typeIs_bytes _ _ _,hQ t k⟩) fun obj s₁ h₁=>?_
  exact ⟨h₁.1,F.args_object_init_2 obj _,object_init_meets F.bm_called.init.lookup F.bm_called.made (by decide) prog w A.in1 _ s₁ ⟨h₁.1,rfl,h₁.2⟩⟩
end
end MineL
namespace Mine
open PySem PySem.Calls PyProof.Rows PySem.W Builtin Builtin.Bytes
theorem c_bba {g:Gx} {n:Nat} {hd:Bool} {H:AHeap} {i:Nat} {xs:List Int} (h:H[i]? = some (.barr xs)) (hl:xs.length≤1000):Call g n hd H (.ty "bytes") [.ob i] [] (.bytes xs) H:=by
  refine Call.c1 (f:=.ty "bytes") (fun _ _ h=>h) ?_
  exact fun {x s A u Q E} z am r d=>r.elim fun a r=>r.2 ▸ (z.obj _ _ _ h r.1).elim fun b o=>wpAny_with_toks (Nat.le_refl _) (up (MineL.call_bytes_barr o.1 (by rw [←Array.length_toList,←List.length_map (fun u:UInt8=>(u.toNat:Int)),o.2];exact hl) fun t k hle=>d (z.toks k hle).2 (z.toks k hle).1 ⟨b,t,rfl,o.2⟩))
end Mine
namespace MineL
open PySem PySem.Calls PyProof.Rows PySem.W Builtin
theorem ha_kind:builtinKind "hasattr" = none:=by decide +kernel
theorem ha_plain:plainId "hasattr" = true:=by decide +kernel
theorem ha_entry:entryFor table "hasattr" = some Builtin.«hasattr»:=by first | exact entryFor_of_fast (by kernel_rfl) | exact entryFor_of_tree (by kernel_rfl)
theorem ha_args (a b:Value):argsOk "hasattr" ⟨[a,b],[]⟩:=by unfold argsOk;kernel_rfl
section
variable {prog:Program} {w:World} {s:Shared} {A:Around} {E:Value→Shared→Prop}
theorem call_hasattr {a:Addr} {T:String} {nm:Str} {u:Tok} {r:Option Value} {Q:Value→Shared→Prop} (hT:s.TypeIs (.ref a) T) (hm:isSubtype (.type T) (.type "module")=pure false)
    (hl:typeLookup (.type T) nm=pure r) (hr:r=none∨∃ id,r=some (.builtin id)∧withoutEnding? id "#data" = none) {ga:Option Value} (hga:typeLookup (.type T) "__getattribute__" = pure ga)
    (hg:wpAny (model prog w) A.in1 (getAttrBy (.ref a) (.str nm u) false) (fun _ s'=>Q (.bool true) s') (fun e s'=>s'.TypeIs e "AttributeError"∧Q (.bool false) s') s) :
    wpAny (model prog w) A (call (.builtin "hasattr") [.ref a,.str nm u]) Q E s:=by
  refine call_function_entry ha_kind ha_plain ha_entry (ha_args _ _) ?_
  unfold Builtin.«hasattr»
  refine wpAny_bind (wpAny_of_eq (a:=[.ref a,.str nm u]) rfl ?_)
  refine wpAny_bind (wpAny_of_eq (a:=()) rfl ?_)
  refine if_neg' (by simp) ?_
  refine wpAny_bind (wpAny_typeOf hT ?_)
  refine wpAny_bind (wpAny_of_eq (a:=some nm) rfl ?_)
  refine wpAny_bind (wpAny_of_eq hl ?_)
  have isErr:∀ {e:Value} {s':Shared},s'.TypeIs e "AttributeError"→isSubtype (.type "AttributeError") (.type "AttributeError")=pure true:=fun _=>sub_AttributeError
  rcases hr with rfl | ⟨id,rfl,hid⟩
  · dsimp only
    refine wpAny_bind (wpAny_bind (wpAny_of_eq (a:=some nm) rfl ?_))
    refine wpAny_bind (wpAny_isInstance hT hm ?_)
    refine if_pos' (by decide) ?_
    refine wpAny_pure ?_
    refine if_neg' (by decide) ?_
    refine wpAny_bind ?_
    unfold getAttrBy?
    refine wpAny_bind (wpAny_attempt (wpAny_mono hg (fun v s' h=>?_) fun e s' h=>?_))
    · refine wpAny_pure ?_
      exact wpAny_pure ⟨_,rfl,h⟩
    · refine wpAny_bind (wpAny_isInstance h.1 sub_AttributeError ?_)
      refine wpAny_pure ?_
      exact wpAny_pure ⟨_,rfl,h.2⟩
  · dsimp only
    refine wpAny_bind (wpAny_of_eq hga ?_)
    refine if_neg' (by rw [hid];simp) ?_
    refine wpAny_bind (wpAny_bind (wpAny_of_eq (a:=some nm) rfl ?_))
    refine wpAny_bind (wpAny_isInstance hT hm ?_)
    refine if_pos' (by decide) ?_
    refine wpAny_pure ?_
    refine if_neg' (by decide) ?_
    refine wpAny_bind ?_
    unfold getAttrBy?
    refine wpAny_bind (wpAny_attempt (wpAny_mono hg (fun v s' h=>?_) fun e s' h=>?_))
    · refine wpAny_pure ?_
      exact wpAny_pure ⟨_,rfl,h⟩
    · refine wpAny_bind (wpAny_isInstance h.1 sub_AttributeError ?_)
      refine wpAny_pure ?_
      exact wpAny_pure ⟨_,rfl,h.2⟩
theorem by_miss_list {a:Addr} {o:Obj} {xs:Array Value} {k:Nat} {name:Str} {u:Tok} {Q:Value→Shared→Prop}
    (hx:s.heap.get? a=some o) (hc:o.cls = .type "list") (hdat:o.data = .seq xs k) (hd:o.dict=none) (hmiss:typeLookup (.type "list") name=pure none) (hname:(["__module__","__name__","__qualname__","__doc__","__annotations__"]:List Str).contains name=false) (hA:A.handled=none)
    (h:∀ h' tk e,Heap.NewExcOf s.heap h' e "AttributeError"→E (.ref e) { s with heap:=h',toks:=tk }) (hsz:name.length+100≤sizeLine:=by size_fits) :
    wpAny (model prog w) A (getAttrBy (.ref a) (.str name u) false) Q E s:=by
  obtain ⟨c,dct,dat,sl⟩:=o
  simp only at hc hdat hd
  subst hc hdat hd
  obtain ⟨hp,g,d,tk,os⟩:=s
  have hT:∀ tk',(⟨hp,g,d,tk',os⟩:Shared).TypeIs (.ref a) "list":=fun _=>⟨_,hx,rfl⟩
  have f1:=sub_AttributeError
  have f3:=F.slot_list_getattribute.lookup
  have f4:=F.slot_list_getattribute.bind (.ref a)
  have f5:=am_list_getattr_none
  unfold getAttrBy
  repeat (any_goals (first | assumption | exact hT _ | ((with_reducible show wpAny _ _ (call (Value.builtin "list.__getattribute__") _ _) _ _ _);refine call_meets F.slot_list_getattribute (hT _) am_entry_list_getattribute (F.args_list_getattribute_2 _ _) (meets_getattribute_miss_list a xs k sl name _ hmiss hname hsz) ⟨hx,hA,fun h' tk' e hx'=>?_⟩) | wp_step))
  obtain ⟨t',u',he⟩:=hx'.there
  show wpAny _ _ (getattributeRaised _ _ _ _ _ _ _) _ _ _
  unfold getattributeRaised
  repeat (any_goals (first | assumption | wp_step))
  exact h _ _ _ hx'.of
theorem by_miss_dict {a:Addr} {o:Obj} {es:Array DictEntry} {k:Nat} {name:Str} {u:Tok} {Q:Value→Shared→Prop}
    (hx:s.heap.get? a=some o) (hc:o.cls = .type "dict") (hdat:o.data = .dict es k) (hd:o.dict=none) (hmiss:typeLookup (.type "dict") name=pure none) (hname:(["__module__","__name__","__qualname__","__doc__","__annotations__"]:List Str).contains name=false) (hA:A.handled=none)
    (h:∀ h' tk e,Heap.NewExcOf s.heap h' e "AttributeError"→E (.ref e) { s with heap:=h',toks:=tk }) (hsz:name.length+100≤sizeLine:=by size_fits) :
    wpAny (model prog w) A (getAttrBy (.ref a) (.str name u) false) Q E s:=by
  obtain ⟨c,dct,dat,sl⟩:=o
  simp only at hc hdat hd
  subst hc hdat hd
  obtain ⟨hp,g,d,tk,os⟩:=s
  have hT:∀ tk',(⟨hp,g,d,tk',os⟩:Shared).TypeIs (.ref a) "dict":=fun _=>⟨_,hx,rfl⟩
  have f1:=sub_AttributeError
  have f3:=F.slot_dict_getattribute.lookup
  have f4:=F.slot_dict_getattribute.bind (.ref a)
  have f5:=am_dict_getattr_none
  unfold getAttrBy
  repeat (any_goals (first | assumption | exact hT _ | ((with_reducible show wpAny _ _ (call (Value.builtin "dict.__getattribute__") _ _) _ _ _);refine call_meets F.slot_dict_getattribute (hT _) am_entry_dict_getattribute (F.args_dict_getattribute_2 _ _) (meets_getattribute_miss_dict a es k sl name _ hmiss hname hsz) ⟨hx,hA,fun h' tk' e hx'=>?_⟩) | wp_step))
  obtain ⟨t',u',he⟩:=hx'.there
  show wpAny _ _ (getattributeRaised _ _ _ _ _ _ _) _ _ _
  unfold getattributeRaised
  repeat (any_goals (first | assumption | wp_step))
  exact h _ _ _ hx'.of
theorem by_fn {a d:Addr} {fd:FuncData} {sl:Array (Option Value)} {name:Str} {u:Tok} {m:Str→Option Value} {v:Value} {Q:Value→Shared→Prop}
    (hx:s.heap.get? a=some { cls:=.type "function",dict:=some d,data:=.func fd,slots:=sl }) (hns:s.heap.Ns d m) (hn:Mine.attrNames.contains name=true) (hm:m name=some v) (hb:∀ id,v ≠ .builtin id)
    (h:∀ tk,Q v { s with toks:=tk }):wpAny (model prog w) A (getAttrBy (.ref a) (.str name u) false) Q E s:=by
  obtain ⟨hp,g,dr,tk,os⟩:=s
  have hT:∀ tk',(⟨hp,g,dr,tk',os⟩:Shared).TypeIs (.ref a) "function":=fun _=>⟨_,hx,rfl⟩
  have f3:=Mine.slot_fn_ga.lookup
  have f4:=Mine.slot_fn_ga.bind (.ref a)
  have f5:=Mine.fn_none_getattr
  unfold getAttrBy
  (repeat (any_goals (first | assumption | exact hT _ | ((with_reducible show wpAny _ _ (call (Value.builtin "object.__getattribute__") _ _) _ _ _);refine call_meets Mine.slot_fn_ga (hT _) Mine.entry_oga (Mine.args_oga _ _) (Mine.meets_fn_ga a d fd sl name _ m v hn hm) ⟨hx,hns,?_⟩) | wp_step)))
  all_goals
    show wpAny _ _ (handedOut v) _ _ _
    have:handedOut v=pure v:=by cases v <;> first | rfl | exact absurd rfl (hb _)
    rw [this]
    exact wpAny_pure (h _)
theorem lk_getitem:typeLookup (.type "list") "__getitem__" = pure (some (.builtin "list.__getitem__")):=by rw [typeLookup_type,builtinLookup_eq_fast];kernel_rfl
theorem gi_type:typeOf (.builtin "list.__getitem__")=pure (.type "method_descriptor"):=by show builtinType _=_;rw [builtinType_eq_fast];kernel_rfl
theorem gi_get:typeLookup (.type "method_descriptor") "__get__" = pure (some (.builtin "method_descriptor.__get__")):=by rw [typeLookup_type,builtinLookup_eq_fast];kernel_rfl
theorem gi_set:typeLookup (.type "method_descriptor") "__set__" = pure none:=by rw [typeLookup_type,builtinLookup_eq_fast];kernel_rfl
theorem gi_del:typeLookup (.type "method_descriptor") "__delete__" = pure none:=by rw [typeLookup_type,builtinLookup_eq_fast];kernel_rfl
theorem gi_slot:Slot "method_descriptor" "__get__" "method_descriptor.__get__":=
  .of (owner:="method_descriptor") (n:="__get__") (by rw [typeLookup_type,builtinLookup_eq_fast];kernel_rfl) (by decide +kernel) (by decide +kernel) (by decide +kernel)
    (by first | exact .inl (by decide +kernel) | exact .inr (by decide +kernel)) (by rw [isSubtype_type];kernel_rfl)
theorem gi_entry:entryFor table "method_descriptor.__get__" = some Builtin.«method_descriptor.__get__»:=by first | exact entryFor_of_fast (by kernel_rfl) | exact entryFor_of_tree (by kernel_rfl)
theorem gi_args (a b c:Value):argsOk "method_descriptor.__get__" ⟨[a,b,c],[]⟩:=by unfold argsOk;kernel_rfl
theorem gi_sub:isSubtype (.type "list") (.type (".".intercalate ("list.__getitem__".cutAt '.').dropLast))=pure true:=by
  rw [show ".".intercalate ("list.__getitem__".cutAt '.').dropLast = "list" by decide +kernel,isSubtype_type];kernel_rfl
theorem gi_call {a:Addr} {Q:Value→Shared→Prop} {o:Obj} (hx:s.heap.get? a=some o) (hc:o.cls = .type "list")
    (h:∀ v h' tk,(∀ b o,s.heap.get? b=some o→h'.get? b=some o)→Q (.ref v) { s with heap:=h',toks:=tk }) :
    codeAny (model prog w) A (.call (.builtin "method_descriptor.__get__") ⟨[.builtin "list.__getitem__",.ref a,.type "list"],[]⟩) (fun r s'=>match r with | .ok (.ret v)=>Q v s' | .ok _=>False | .error e=>E e s') s:=by
  have hT:s.TypeIs (.ref a) "list":=⟨_,hx,hc⟩
  have hT5:s.TypeIs (.builtin "list.__getitem__") "method_descriptor":=gi_type
  refine codeAny_call_builtin gi_slot.plain gi_entry (gi_slot.check _ _ _ _ _ _ _ _ hT5 (gi_args _ _ _) ?_)
  obtain ⟨hp,g,d,tk,os⟩:=s
  have f1:=gi_sub
  repeat (any_goals (first | assumption | wp_step))
  exact h _ _ _ fun b o e=>Heap.get?_push_of_some _ e
theorem entry_getitem_list {tk:Tok} {Q:PySem.Fin→Shared→Prop} {a:Addr} {o:Obj} {xs:Array Value} {k:Nat} (hx:s.heap.get? a=some o) (hc:o.cls = .type "list") (hdat:o.data = .seq xs k) (hd:o.dict=none)
    (hq:∀ v h' tk,(∀ b o,s.heap.get? b=some o→h'.get? b=some o)→Q (.done (.ret (.ref v))) { s with heap:=h',toks:=tk }) :
    wpAny (model prog w) A (Builtin.«object.__getattribute__» ⟨[.ref a,.str "__getitem__" tk],[]⟩) Q E s:=by
  obtain ⟨c,dct,dat,sl⟩:=o
  simp only at hc hdat hd
  subst hc hdat hd
  obtain ⟨h,g,d,t,os⟩:=s
  have hT:(⟨h,g,d,t,os⟩:Shared).TypeIs (.ref a) "list":=⟨_,hx,rfl⟩
  have f4:=lk_getitem
  have f5:=gi_type
  have f6:=gi_get
  have f7:=gi_set
  have f8:=gi_del
  have f9:(["__module__","__name__","__qualname__","__doc__","__annotations__"]:List Str).contains "__getitem__" = false:=by decide +kernel
  repeat (any_goals (first | assumption | wp_step))
  exact gi_call hx rfl fun v h' tk k=>wpAny_pure (hq v h' tk k)
theorem by_getitem_list {tk:Tok} {Q:Value→Shared→Prop} {a:Addr} {o:Obj} {xs:Array Value} {k:Nat} (hx:s.heap.get? a=some o) (hc:o.cls = .type "list") (hdat:o.data = .seq xs k) (hd:o.dict=none)
    (hq:∀ v h' tk,(∀ b o,s.heap.get? b=some o→h'.get? b=some o)→Q (.ref v) { s with heap:=h',toks:=tk }):wpAny (model prog w) A (getAttrBy (.ref a) (.str "__getitem__" tk) false) Q E s:=by
  obtain ⟨h,g,d,t,os⟩:=s
  have hT:(⟨h,g,d,t,os⟩:Shared).TypeIs (.ref a) "list":=⟨_,hx,hc⟩
  have f2:=F.slot_list_getattribute.lookup
  have f3:=F.slot_list_getattribute.bind (.ref a)
  repeat (any_goals (first | assumption | wp_step))
  refine codeAny_call_builtin F.slot_list_getattribute.plain F.entry_list_ga (F.slot_list_getattribute.check _ _ _ _ _ _ _ _ hT (F.args_list_getattribute_2 _ _) (entry_getitem_list hx hc hdat hd fun v h' tk k=>?_))
  exact wpAny_pure (hq v h' tk k)
end
end MineL
namespace Mine
open PySem PySem.Calls PyProof.Rows PySem.W
section
variable {g:Gx} {x:Wd} {H:AHeap} {s:Shared} {A:Around} {n:Nat} {hd:Bool} {i:Nat} {v:AV} {xs:List AV} {es:List (Str × AV)}
theorem newExc_is {h h':Heap} {e:Addr} (x:Heap.NewExcOf h h' e "AttributeError") {t:Shared} (ht:t.heap=h'):t.TypeIs (.ref e) "AttributeError":=by
  subst ht
  exact x.3.elim fun o q=>q.elim fun vs q=>⟨o,q.1,q.2.1⟩
theorem tag_np:(["__module__","__name__","__qualname__","__doc__","__annotations__"]:List Str).contains "tag" = false:=by decide +kernel
theorem c_has_list (h:H[i]? = some (.list xs)):Call g n hd H (.bi "hasattr") [.ob i,.str "__getitem__"] [] (.bool true) H:=by
  refine Call.c2 (f:=.bi "hasattr") (fun _ _ h=>h) ?_
  exact fun {x s A u w Q E} z am r r2 d=>r2.elim fun tk r2=>r2 ▸ z.list h r (P:=fun u=>wpAny _ _ (PySem.call _ [u,_]) _ _ _) fun a vs k _ g1 q1 =>
    wpAny_with_toks (Nat.le_refl _) (up (MineL.call_hasattr ⟨_,g1,rfl⟩ (by rw [isSubtype_type];kernel_rfl) MineL.lk_getitem (.inr ⟨_,rfl,by decide +kernel⟩) PySem.F.slot_list_getattribute.lookup
        (MineL.by_getitem_list g1 rfl rfl rfl fun p h' k hk hle=>(d (z.stay hk hle).2 (z.stay hk hle).1 rfl))))
theorem c_has_fn (h : AttrQ H i "tag" v):Call g n hd H (.bi "hasattr") [.ob i,.str "tag"] [] (.bool true) H:=by
  refine Call.c2 (f:=.bi "hasattr") (fun _ _ h=>h) ?_
  exact fun {x s A u w Q E} z am r r2 d=>r2.elim fun tk r2=>r2 ▸ h.rec fun h1 h2 h3 h4 h5=>r.elim fun a r=>(z.obj i _ a h1 r.1).rec fun g1 _ _ dv=>dv.elim fun b dv=>(z.obj _ _ b h2 dv.1).elim fun m n=>(n.2.1 _ v h4).elim fun w hw =>
    r.2 ▸ wpAny_with_toks (Nat.le_refl _) (up (MineL.call_hasattr (T:="function") ⟨_,g1,rfl⟩ (by rw [isSubtype_type];kernel_rfl) (fn_none_name h3) (.inl rfl) slot_fn_ga.lookup
                  (MineL.by_fn (dv.2 ▸ g1) n.1.ns h3 hw.1 (fun id q=>nomatch (vr_bi (q ▸ hw.2)) ▸ h5) fun tk hle=>d (z.toks tk hle).2 (z.toks tk hle).1 rfl)))
theorem has_none {a:Addr} {T:String} (z:Rl g x H s) (hT:s.TypeIs (.ref a) T) (hm:isSubtype (.type T) (.type "module")=pure false) (hl:typeLookup (.type T) "tag" = pure none) {ga:Option Value} (hga:typeLookup (.type T) "__getattribute__" = pure ga) {u:Tok} {Q E}
    (k:∀ {Q E},(∀ h' tk e,Heap.NewExcOf s.heap h' e "AttributeError"→E (.ref e) { s with heap:=h',toks:=tk })→PySem.wpAny g.M A.in1 (getAttrBy (.ref a) (.str "tag" u) false) Q E s)
    (d:Ok g VR x s (.bool false) H Q):wpAny g.M A (PySem.call (.builtin "hasattr") [.ref a,.str "tag" u]) Q E s:=
  wpAny_with_toks (Nat.le_refl _) (up (MineL.call_hasattr hT hm hl (.inl rfl) hga (k fun h' k e hx=>⟨newExc_is hx rfl,fun hle=>d (z.stay hx.keeps hle).2 (z.stay hx.keeps hle).1 rfl⟩)))
theorem c_has_lno (h:H[i]? = some (.list xs)):Call g n false H (.bi "hasattr") [.ob i,.str "tag"] [] (.bool false) H:=by
  refine Call.c2 (f:=.bi "hasattr") (fun _ _ h=>h) ?_
  have hl:typeLookup (.type "list") "tag" = pure none:=by rw [typeLookup_type,builtinLookup_eq_fast];kernel_rfl
  exact fun {x s A u w Q E} z am r r2 d=>r2.elim fun tk r2=>r2 ▸ z.list h r (P:=fun u=>wpAny _ _ (PySem.call _ [u,_]) _ _ _) fun a vs k _ g1 q1 =>
    has_none z ⟨_,g1,rfl⟩ (by rw [isSubtype_type];kernel_rfl) hl PySem.F.slot_list_getattribute.lookup (fun k=>MineL.by_miss_list g1 rfl rfl rfl hl tag_np am.calm k (Nat.le_trans (by decide +kernel) bigLine)) d
theorem c_has_dno (h:H[i]? = some (.dict es)):Call g n false H (.bi "hasattr") [.ob i,.str "tag"] [] (.bool false) H:=by
  refine Call.c2 (f:=.bi "hasattr") (fun _ _ h=>h) ?_
  have hl:typeLookup (.type "dict") "tag" = pure none:=by rw [typeLookup_type,builtinLookup_eq_fast];kernel_rfl
  exact fun {x s A u w Q E} z am r r2 d=>r2.elim fun tk r2=>r2 ▸ z.dict h r (P:=fun u=>wpAny _ _ (PySem.call _ [u,_]) _ _ _) fun a vs _ d1 n1 =>
    d1.elim fun o q=>q.elim fun es q=>q.elim fun ep q=>
    has_none z ⟨_,q.1,q.2.1.1⟩ (by rw [isSubtype_type];kernel_rfl) hl PySem.F.slot_dict_getattribute.lookup (fun k=>MineL.by_miss_dict q.1 q.2.1.1 q.2.2.1 q.2.1.2.1 hl tag_np am.calm k (Nat.le_trans (by decide +kernel) bigLine)) d
end
noncomputable def sortIns {β:Type} (k:Int) (v:β):List (Int × β)→List (Int × β)
  | []=>[(k,v)]
  | (l,u) :: r=>if k < l then (k,v) :: (l,u) :: r else (l,u) :: sortIns k v r
noncomputable def sortA {β:Type}:List (Int × β)→List (Int × β)→List (Int × β)
  | [],acc=>acc
  | p :: r,acc=>sortA r (sortIns p.1 p.2 acc)
noncomputable def sortK (ks:List Int) (xs:List AV):List AV:=(sortA (ks.zip xs) []).map (·.2)
noncomputable def tRun {α:Type} (c:Nat→Nat→Bool) (t:KasT α):α:=t.rec id fun i j _ ih=>ih (c i j)
noncomputable def tOk {α:Type} (n:Nat) (c:Nat→Nat→Bool) (t:KasT α):Bool:=t.rec (fun _=>true) fun i j _ ih=>decide (i < n) && (decide (j < n) && ih (c i j))
theorem tWp {α:Type} {ask:Nat→Nat→(Bool→Shared→Prop)→Shared→Prop} {n:Nat} {c:Nat→Nat→Bool} (h:∀ i j C s,i < n→j < n→C (c i j) s→ask i j C s) {G:α→Shared→Prop} {s:Shared}
    {t:KasT α}:tOk n c t=true→G (tRun c t) s→t.kasWp ask G s:=by
  induction t with
  | ret a=>exact fun _ g=>g
  | ask i j k ih=>exact fun ok g=>have o:=Bool.and_eq_true_iff.mp ok;have o2:=Bool.and_eq_true_iff.mp o.2;h i j _ s (of_decide_eq_true o.1) (of_decide_eq_true o2.1) (ih _ o2.2 g)
theorem tRun_congr {α:Type} {n:Nat} {c c':Nat→Nat→Bool} (h:∀ i j,i < n→j < n→c i j=c' i j) {t:KasT α}:tOk n c' t=true→tOk n c t=true∧tRun c t=tRun c' t:=by
  induction t with
  | ret a=>exact fun _=>⟨rfl,rfl⟩
  | ask i j k ih=>exact fun ok =>
      have o:=Bool.and_eq_true_iff.mp ok
      have o2:=Bool.and_eq_true_iff.mp o.2
      have e:=h i j (of_decide_eq_true o.1) (of_decide_eq_true o2.1)
      have q:=ih _ o2.2
      ⟨Bool.and_eq_true_iff.mpr ⟨o.1,Bool.and_eq_true_iff.mpr ⟨o2.1,(congrArg (fun b=>tOk n c (k b)) e).trans q.1⟩⟩,(congrArg (fun b=>tRun c (k b)) e).trans q.2⟩
noncomputable def ltOf (r:List Int) (i j:Nat):Bool:=decide (r.getD i 0 < r.getD j 0)
noncomputable def idx5 (ks:List Int):List Nat:=(sortA (ks.zip [0,1,2,3,4]) []).map (·.2)
noncomputable def chk5 (r:List Int):Bool:=tOk 5 (ltOf r) (kas_sort 5) && ((tRun (ltOf r) (kas_sort 5)).toList == idx5 r)
noncomputable def rank (ks:List Int) (k:Int):Nat:=ks.countP fun x=>decide (x < k)
noncomputable def R5:List Int:=[0,1,2,3,4]
theorem sort5_all:(R5.all fun a=>R5.all fun b=>R5.all fun c=>R5.all fun d=>R5.all fun e=>chk5 [a,b,c,d,e])=true:=by decide +kernel
theorem rank_mono {ks:List Int} {k l:Int} (h:k≤l):rank ks k≤rank ks l:=List.countP_mono_left fun _ _ hx=>decide_eq_true (Int.lt_of_lt_of_le (of_decide_eq_true hx) h)
theorem rank_lt {k l:Int} (h:k < l) {ks:List Int}:k∈ks→rank ks k < rank ks l:=by
  unfold rank
  induction ks with
  | nil=>exact fun m=>nomatch m
  | cons x r ih =>
    intro hm
    rw [List.countP_cons,List.countP_cons]
    exact (List.mem_cons.mp hm).elim (fun e=>by
        subst e
        rw [if_neg (fun q=>Int.lt_irrefl _ (of_decide_eq_true q)),if_pos (decide_eq_true h)]
        exact Nat.lt_succ_of_le (rank_mono (Int.le_of_lt h)))
      fun m=>Nat.add_lt_add_of_lt_of_le (ih m) (if q:x < k then by rw [if_pos (decide_eq_true q),if_pos (decide_eq_true (Int.lt_trans q h))];exact Nat.le_refl _ else by rw [if_neg (fun p=>q (of_decide_eq_true p))];exact Nat.zero_le _)
theorem rank_iff {ks:List Int} {k l:Int} (hk:k∈ks):(rank ks k:Int) < rank ks l↔k < l:=
  ⟨fun h=>(Int.lt_or_le k l).elim id fun q=>absurd (rank_mono (ks:=ks) q) (Nat.not_le.mpr (Int.ofNat_lt.mp h)),fun h=>Int.ofNat_lt.mpr (rank_lt h hk)⟩
theorem rank_R5 {ks:List Int} {k:Int} (h:ks.length=5) (hk:k∈ks):(rank ks k:Int)∈R5:=by
  have h1:rank ks k≤ks.length:=List.countP_le_length
  have h2:rank ks k≠ks.length:=fun e=>absurd (of_decide_eq_true (List.countP_eq_length.mp e k hk)) (Int.lt_irrefl k)
  rw [h] at h1 h2
  have h3:rank ks k < 5:=Nat.lt_of_le_of_ne h1 h2
  generalize rank ks k=q at h3
  revert q
  decide
section
variable {β γ:Type} (g:Int→Int) (f:β→γ)
theorem sortIns_map {k:Int} {v:β} {l:List (Int × β)}:(∀ p∈l,g k < g p.1↔k < p.1)→sortIns (g k) (f v) (l.map fun p=>(g p.1,f p.2))=(sortIns k v l).map fun p=>(g p.1,f p.2):=by
  induction l with
  | nil=>exact fun _=>rfl
  | cons p r ih =>
    intro h
    have h0:=h p List.mem_cons_self
    show (if g k < g p.1 then _ else _)=List.map _ (if k < p.1 then _ else _)
    by_cases hq:k < p.1
    · rw [if_pos hq,if_pos (h0.mpr hq)];rfl
    · rw [if_neg hq,if_neg (fun x=>hq (h0.mp x)),ih fun p hp=>h p (List.mem_cons_of_mem _ hp)];rfl
theorem sortIns_mem {k:Int} {v:β} {p:Int × β} {l:List (Int × β)}:p∈sortIns k v l→p=(k,v)∨p∈l:=by
  induction l with
  | nil=>exact fun h=>.inl (List.mem_singleton.mp h)
  | cons q r ih =>
    intro h
    have h:p∈(if k < q.1 then _ else _):=h
    by_cases hq:k < q.1
    · rw [if_pos hq] at h;exact List.mem_cons.mp h
    · rw [if_neg hq] at h;exact (List.mem_cons.mp h).elim (fun e=>.inr (e ▸ List.mem_cons_self)) fun h=>(ih h).imp id (List.mem_cons_of_mem _)
theorem sortA_map {l:List (Int × β)}:∀ {acc:List (Int × β)},(∀ p∈l++acc,∀ q∈l++acc,g p.1 < g q.1↔p.1 < q.1) →
    sortA (l.map fun p=>(g p.1,f p.2)) (acc.map fun p=>(g p.1,f p.2))=(sortA l acc).map fun p=>(g p.1,f p.2):=by
  induction l with
  | nil=>exact fun _=>rfl
  | cons a r ih =>
    intro acc h
    have sub:∀ p,p∈r++sortIns a.1 a.2 acc→p∈a :: r++acc:=fun p hp=>(List.mem_append.mp hp).elim (fun hp=>List.mem_append_left _ (List.mem_cons_of_mem _ hp))
      fun hp=>(sortIns_mem hp).elim (fun e=>e ▸ List.mem_append_left _ List.mem_cons_self) fun hp=>List.mem_append_right _ hp
    exact (congrArg _ (sortIns_map g f fun p hp=>h a (List.mem_append_left _ List.mem_cons_self) p (List.mem_append_right _ hp))).trans (ih fun p hp q hq=>h p (sub p hp) q (sub q hq))
end
theorem len5 {α:Type} {l:List α} (h:l.length=5) {P:List α→Prop} (k:∀ a b c d e,P [a,b,c,d,e]):P l:=by
  match l,h with
  | [a,b,c,d,e],_=>exact k a b c d e
theorem sort5 {ks:List Int} (h5:ks.length=5):tOk 5 (ltOf ks) (kas_sort 5)=true∧(tRun (ltOf ks) (kas_sort 5)).toList=idx5 ks:=by
  have key:∀ r:Int→Int,(∀ k∈ks,r k∈R5)→chk5 (ks.map r)=true:=fun r=>len5 h5 (P:=fun ks=>(∀ k∈ks,r k∈R5)→chk5 (ks.map r)=true) fun a b c d e m =>
      have al:=@List.all_eq_true Int
      al.mp (al.mp (al.mp (al.mp (al.mp sort5_all _ (m a (.head _))) _ (m b (.tail _ (.head _)))) _ (m c (.tail _ (.tail _ (.head _))))) _ (m d (.tail _ (.tail _ (.tail _ (.head _)))))) _ (m e (.tail _ (.tail _ (.tail _ (.tail _ (.head _))))))
  have key:=key (fun k=>(rank ks k:Int)) fun k=>rank_R5 h5
  have key:=Bool.and_eq_true_iff.mp key
  have e:∀ q,q < 5→(ks.map fun k=>(rank ks k:Int)).getD q 0=rank ks (ks.getD q 0)∧ks.getD q 0∈ks:=fun q hq=>by
    have hq':q < ks.length:=h5 ▸ hq
    rw [List.getD_eq_getElem?_getD,List.getD_eq_getElem?_getD,List.getElem?_map,List.getElem?_eq_getElem hq']
    exact ⟨rfl,List.getElem_mem hq'⟩
  have cg:∀ i j,i < 5→j < 5→ltOf ks i j=ltOf (ks.map fun k=>(rank ks k:Int)) i j:=fun i j hi hj=>by
    unfold ltOf
    rw [(e i hi).1,(e j hj).1]
    exact decide_eq_decide.mpr (rank_iff (e i hi).2).symm
  have t:=tRun_congr (n:=5) cg key.1
  refine ⟨t.1,(congrArg _ t.2).trans ((eq_of_beq key.2).trans ?_)⟩
  have z:=sortA_map (fun k=>(rank ks k:Int)) (id:Nat→Nat) (l:=ks.zip [0,1,2,3,4]) (acc:=[]) fun p hp q hq=>rank_iff (List.of_mem_zip (show (p.1,p.2)∈_ from (List.append_nil _) ▸ hp)).1
  unfold idx5
  rw [List.zip_map_left]
  exact (congrArg _ z).trans (List.map_map)
theorem sortK_idx {ks:List Int} {xs:List AV} (h:ks.length=5) (h2:xs.length=5):sortK ks xs=(idx5 ks).map fun i=>xs.getD i .none:=
  len5 h2 (P:=fun xs=>sortK ks xs=(idx5 ks).map fun i=>xs.getD i .none) fun x0 x1 x2 x3 x4=>by
    have e:=sortA_map (id:Int→Int) (fun i:Nat=>([x0,x1,x2,x3,x4]:List AV).getD i .none) (l:=ks.zip [0,1,2,3,4]) (acc:=[]) (fun p _ q _=>Iff.rfl)
    unfold sortK idx5
    rw [List.map_map]
    refine (congrArg (List.map (·.2)) (Eq.trans ?_ e)).trans List.map_map
    refine congrArg (sortA · []) ?_
    exact len5 h (P:=fun ks=>ks.zip [x0,x1,x2,x3,x4]=(ks.zip [0,1,2,3,4]).map _) fun _ _ _ _ _=>rfl
section
variable {prog:Program} {w:World} {g:Gx} {x y x₀:Wd} {H:AHeap} {s t s₀:Shared} {A:Around} {n:Nat} {hd:Bool} {E:Post Value} {D kS:Addr} {xs:List AV} {ks:List Int} {f:AV} {vs us:List Value} {k e1:Nat}
theorem call_function_entry_kw {id:String} {b:Builtin} {args:List Value} {kw:List (Str × Value)} {Q:Value→Shared→Prop} (hk:builtinKind id=none) (hp:plainId id=true) (hb:entryFor table id=some b) (ha:argsOk id ⟨args,kw⟩)
    (hc:wpAny (model prog w) A.in1 (b ⟨args,kw⟩) (fun fin s'=>∃ v,fin = .done (.ret v)∧Q v s') E s) (hg:badIds.contains id=false:=by decide +kernel):wpAny (model prog w) A (call (.builtin id) args kw) Q E s:=by
  refine wpAny_call (codeAny_call_builtin hp hb ?_ hg)
  have hfin:=wpAny_mono hc (Q':=fun fin s'=>match fin with
      | .done f=>(match (Except.ok f:Result) with | .ok (.ret v)=>Q v s' | .ok _=>False | .error e=>E e s')
      | .again c'=>c'.quiet=true∧codeAny (model prog w) A c' (fun r s'=>match r with | .ok (.ret v)=>Q v s' | .ok _=>False | .error e=>E e s') s')
    (fun fin s' h'=>h'.elim fun v h'=>h'.1 ▸ h'.2) fun _ _ h'=>h'
  simp only [checkBuiltinCall,hk]
  cases hsig:Manifest.signature? id with
  | none=>exact wpAny_pure hfin
  | some sig =>
    have ha':Bind.checkArgs id sig ⟨args,kw⟩=pure ():=by simpa only [argsOk,hsig] using ha
    simp only [ha']
    exact wpAny_pure hfin
theorem wpAny_call_entry_kw {T:String} {name:Str} {id:String} {b:Builtin} {self:Value} {rest:List Value} {kw:List (Str × Value)} {Q:Value→Shared→Prop} (h:Slot T name id) (hT:s.TypeIs self T) (hb:entryFor table id=some b)
    (hc:wpAny (model prog w) A.in1 (b ⟨self :: rest,kw⟩) (fun fin s'=>∃ v,fin = .done (.ret v)∧Q v s') E s) (ha:argsOk id ⟨self :: rest,kw⟩) (hg:badIds.contains id=false:=by decide +kernel) :
    wpAny (model prog w) A (call (.builtin id) (self :: rest) kw) Q E s:=
  wpAny_call (codeAny_call_builtin h.plain hb (up (h.check _ _ _ _ _ _ _ _ hT ha (wpAny_mono hc (fun fin s' h'=>h'.elim fun v h'=>h'.1 ▸ h'.2) fun _ _ h'=>h'))) hg)
noncomputable def Hid (y:Wd) (h:Heap) (D:Addr) (e1:Nat):Prop:=h.get? D=some (seqOb "list" [] e1)∧¬ y.own D
theorem Hid.step (i:Hid y s.heap D e1) (st:Step [] y s x t):Hid x t.heap D e1:=
  ⟨(st.keep D _ i.1 i.2 (fun m=>nomatch m) (NoTb.cls (T:="list") rfl)).elim id (fun q=>q.2.1.elim fun _ q=>q.elim fun _ q=>nomatch q),st.old i.1 i.2⟩
theorem Rl.adopt (z₀:Rl g x₀ H₀ s₀) (z:Rl g x H s) (st:Step [] x₀ s₀ x s) (hn:s₀.heap.get? D=none) (no:¬ x.own D) (e:s.heap.get? D=some (seqOb "list" vs k)) (r:VRs x xs vs) :
    Rl g (x.add D) (H++[.list xs]) s∧Step [] x₀ s₀ (x.add D) s:=
  ⟨⟨z.gens,z.pos,z.tok,z.tfun,z.kfun,z.top,z.base,by rw [List.length_append,←z.len];exact List.length_append,
    List.nodup_append.mpr ⟨z.nd,List.nodup_cons.mpr ⟨nofun,.nil⟩,fun b hb c hc q=>no (.inl (List.mem_singleton.mp hc ▸ q ▸ hb))⟩,
    fun b hb=>(List.mem_append.mp hb).elim (z.low b) fun m=>List.mem_singleton.mp m ▸ z₀.lowOf hn,
    fun i o' b e1 e2=>(get_append e1).elim
      (fun e1=>(z.obj i o' b e1 ((get_append e2).elim id fun q=>absurd (List.getElem?_eq_some_iff.mp e1).1 (by rw [q.1,z.len];exact Nat.lt_irrefl _))).at (x.le_add D) (fun _ e=>e) (fun _ _ e _ _=>e)
        fun b vs n e' ho=>⟨e',fun q=>(add_own q).elim ho fun q=>absurd (congrArg Obj.cls (Option.some.inj (e.symm.trans (show s.heap.get? D=some (seqOb "tuple" vs n) from q ▸ e')))) (ne_code (T:="list") (U:="tuple") (by decide))⟩)
      fun q=>(get_append e2).elim (fun e2=>absurd (List.getElem?_eq_some_iff.mp e2).1 (by rw [q.1,z.len];exact Nat.lt_irrefl _)) fun q2=>by rw [q.2,q2.2];exact ⟨vs,k,e,r.mono (x.le_add D)⟩,
    fun P q m=>(z.tab P q m).at (fun _ m=>m) (fun _ e=>e) fun _ _ e _ _=>e,z.alive⟩,
    ⟨st.same,Wd.le_trans st.le (x.le_add D),st.size,fun b o n=>(add_own o).elim (fun o=>st.new b o n) fun q=>q ▸ hn,st.keep,st.exc⟩⟩
inductive Ky (g:Gx) (n:Nat) (hd:Bool) (H:AHeap) (f:AV):List AV→List Int→Prop
  | nil:Ky g n hd H f [] []
  | cons {v k vs ks}:(∀ ys:List AV,Call g n hd (H++[.list ys]) f [v] [] (.int k) (H++[.list ys]))→Ky g n hd H f vs ks→Ky g n hd H f (v :: vs) (k :: ks)
theorem Ky.len (h:Ky g n hd H f xs ks):xs.length=ks.length:=by
  induction h with
  | nil=>rfl
  | cons _ _ ih=>exact congrArg (·+1) ih
theorem put_last {α:Type} {H:List α} {a b:α}:(H++[a]).set H.length b=H++[b]:=by rw [List.set_append_right _ _ (Nat.le_refl _),Nat.sub_self];rfl
theorem get_last {α:Type} {H:List α} {a:α}:(H++[a])[H.length]? = some a:=List.getElem?_concat_length
theorem Rl.setList (z:Rl g x H s) {m:Nat} {ys:List AV} {us us':List Value} {a:Addr} {q:Nat} {fn:Array Value→Array Value} (ea:x.ρ[m]? = some a) (e:s.heap.get? a=some (seqOb "list" us q)) (hf:fn us.toArray=us'.toArray) (r:VRs x ys us') :
    Rl g x (H.set m (.list ys)) { s with heap:=s.heap.update a (Obj.mapSeq fn) }∧Step [] x s x { s with heap:=s.heap.update a (Obj.mapSeq fn) }:=
  z.put (h':=s.heap.update a (Obj.mapSeq fn)) (tk:=s.toks) (o:=.list ys) ea (fun b o hb e=>(Heap.get?_update_ne _ _ _ _ hb).trans e) ⟨us',_,hf ▸ get?_update_seq e fn,r⟩ (notExc e (ne_code (by decide)))
theorem keys_loop {fv:Value} {body:Value→PUnit→Sem (ForInStep PUnit)} {Q:PUnit→Shared→Prop}
    (hb:∀ v s (R':ForInStep PUnit→Shared→Prop),wpAny g.M A (call fv [v]) (fun k s'=>wpAny g.M A (Builtin.List.listUpdate (.ref kS) (·.push k)) (fun _ s''=>R' (.yield ⟨⟩) s'') E s') (fun _ _=>False) s→wpAny g.M A (body v ⟨⟩) R' E s)
    (kk : Ky g n hd H f xs ks):∀ {acc:List AV} {us:List Value} {y:Wd} {t:Shared},VRs y xs us→Rl g y (H++[.list acc]) t→acc.length+xs.length≤1000→Amb y t.heap A n hd→VR y f fv→y.ρ[H.length]? = some kS→Hid y t.heap D e1 →
      (∀ {y' t'},Step [] y t y' t'→Rl g y' (H++[.list (acc++ks.map .int)]) t'→Hid y' t'.heap D e1→Q ⟨⟩ t')→wpAny g.M A (forIn us PUnit.unit body) Q E t:=by
  induction kk with
  | nil=>exact fun r z _ _ _ _ i d=>r.nil_ (P:=fun us=>wpAny _ _ (forIn us _ _) _ _ _) (wpAny_pure (d (Step.refl _ _ _) (by rw [List.map_nil,List.append_nil];exact z) i))
  | @cons v k vr kr hc _ ih =>
    intro acc us y t r z hl a hf hm i d
    refine r.cons_ (P:=fun us=>wpAny _ _ (forIn us _ _) _ _ _) fun u ur h1 h2=>?_
    rw [List.forIn_cons]
    refine wpAny_bind (hb u t _ (hc acc z a hf (.cons h1 .nil) .nil fun {y1 t1 b} st1 z1 hb1=>?_))
    have hm1:y1.ρ[H.length]? = some kS:=prefix_get st1.le.1 hm
    refine (z1.obj _ _ kS get_last hm1).elim fun us o=>o.elim fun q o=>?_
    have hl2:acc.length+1+vr.length≤1000:=by rw [Nat.add_assoc,Nat.add_comm 1];exact hl
    have hu:us.toArray.size≤sizeLine:=size_le o.2 (Nat.le_trans (Nat.le_add_right _ _) hl)
    refine up (listUpdate_at o.1 rfl ?_ hu (by rw [Array.size_push];exact Nat.succ_le_succ hu))
    have zz:=z1.setList (ys:=acc++[.int k]) (fn:=(·.push b)) hm1 o.1 (List.push_toArray ..) (o.2.append (.cons hb1 .nil))
    rw [put_last] at zz
    have s12:=st1.trW zz.2
    exact ih (h2.mono s12.le) zz.1 (by rw [List.length_append];exact hl2) (a.step0 s12) (hf.mono s12.le) (prefix_get zz.2.le.1 hm1) ((i.step st1).step zz.2) fun st z' i'=>d (s12.trW st) (by rw [List.map_cons,List.append_cons acc];exact z') i'
theorem sort_tail {Q:PySem.Fin→Shared→Prop} {ys:List AV} {out:SortSt} (z₀:Rl g x₀ H₀ s₀) (z:Rl g y (H++[.list ys]) t) (st:Step [] x₀ s₀ y t) (hn:s₀.heap.get? D=none) (i:Hid y t.heap D e1) (hk:y.ρ[H.length]? = some kS) (hys:ys.length≤1000)
    (ho:(arrOf out).map (·.2)=us.toArray) (hr:VRs y xs us) (hl:xs.length≤1000) (hf:failedOf out=none)
    (d:∀ {y' t'},Step [] x₀ s₀ y' t'→Rl g y' (H++[.list [],.list xs]) t'→VR y' (.ob (H.length+1)) (.ref D)→Q (.done (.ret .none)) t'):wpAny g.M A (ksk_tail D false e1 (.ref kS) out) Q E t:=by
  unfold ksk_tail
  rw [ho]
  refine (z.obj _ _ kS get_last hk).elim fun vs o=>o.elim fun q o=>?_
  refine wpAny_bind (up (listUpdate_at o.1 rfl ?_ (size_le o.2 hys) (Nat.zero_le _)))
  have zz:=z.setList (ys:=[]) (us':=[]) (fn:=fun _=>#[]) hk o.1 rfl .nil
  rw [put_last] at zz
  have i2:=i.step zz.2
  refine wpAny_bind (up (wpAny_letGo ?_))
  refine wpAny_bind (up (seqEpoch_at i2.1 rfl ?_))
  refine wpAny_bind (up (listUpdate_at i2.1 rfl ?_ (Nat.zero_le _) (Nat.le_succ_of_le (size_le hr hl))))
  rw [hf]
  refine wpIfNeg (fun q=>nomatch (bne_self_eq_false e1).symm.trans q) (wpAny_pure ?_)
  have ad:=Rl.adopt (vs:=[]) (xs:=[]) z₀ zz.1 (st.trW zz.2) hn i2.2 i2.1 .nil
  have hD:(y.add D).ρ[(H++[AObj.list []]).length]? = some D:=zz.1.get D
  have z6:=ad.1.setList (ys:=xs) (us':=us) (fn:=fun _=>if false=true then us.toArray.reverse else us.toArray) hD i2.1 rfl (hr.mono (y.le_add D))
  rw [put_last,List.append_assoc] at z6
  exact d (ad.2.trW z6.2) z6.1 ⟨_,(List.length_append (as:=H) (bs:=[AObj.list []])) ▸ hD,rfl⟩
end
section
variable {g:Gx} {x y x₀:Wd} {H H₀:AHeap} {s t s₀:Shared} {A:Around} {n:Nat} {hd:Bool} {E:Post Value} {D kS:Addr} {xs:List AV} {ks:List Int} {f:AV} {vs us:List Value} {k e1:Nat}
theorem lt_ints {prog:Program} {w:World} {i j:Int} {t u:Tok} {Q:Bool→Shared→Prop} (h:Q (decide (i < j)) s):PySem.wpAny (model prog w) A (keyLt' oneType' (.int i t) (.int j u)) Q E s:=by
  rw [keyLt'_oneType]
  exact oneLt_int h
theorem sortIns_len {β:Type} {k:Int} {v:β} {l:List (Int × β)}:(sortIns k v l).length=l.length+1:=by
  induction l with
  | nil=>rfl
  | cons p r ih =>
    show (if k < p.1 then _ else _:List _).length=_
    by_cases h:k < p.1
    · rw [if_pos h];rfl
    · rw [if_neg h];exact congrArg (·+1) ih
theorem idx_len (h:ks.length=5):(idx5 ks).length=5:=by
  unfold idx5
  rw [List.length_map]
  exact len5 h (P:=fun ks=>(sortA (ks.zip [0,1,2,3,4]) []).length=5) fun a b c d e=>sortIns_len.trans (congrArg (·+1) (sortIns_len.trans (congrArg (·+1) (sortIns_len.trans (congrArg (·+1) (sortIns_len.trans (congrArg (·+1) sortIns_len)))))))
theorem sortA_mem {β:Type} {p:Int × β} {l:List (Int × β)}:∀ {acc},p∈sortA l acc→p∈l∨p∈acc:=by
  induction l with
  | nil=>exact fun h=>.inr h
  | cons q r ih=>exact fun h=>(ih h).elim (fun h=>.inl (.tail _ h)) fun h=>(sortIns_mem h).elim (fun e=>.inl (e ▸ .head _)) .inr
theorem sort_end {Q:PySem.Fin→Shared→Prop} (z₀:Rl g x₀ H₀ s₀) (z:Rl g y (H++[.list (ks.map .int)]) t) (st:Step [] x₀ s₀ y t) (hn:s₀.heap.get? D=none) (i:Hid y t.heap D e1) (hk:y.ρ[H.length]? = some kS) (ru:VRs y (ks.map .int) us) (hr:VRs y xs vs) (h5:xs.length=5) (hk5:ks.length=5)
    (d:∀ {y' t'},Step [] x₀ s₀ y' t'→Rl g y' (H++[.list [],.list (sortK ks xs)]) t'→VR y' (.ob (H.length+1)) (.ref D)→Q (.done (.ret .none)) t'):wpAny g.M A (ksk_end D false vs.toArray e1 (.ref kS) us.toArray) Q E t:=by
  have hv:vs.length=5:=hr.length.symm.trans h5
  have hu:us.length=5:=ru.length.symm.trans ((List.length_map _).trans hk5)
  have hus:us.length=vs.length:=hu.trans hv.symm
  have iv:=ru.ints
  have hnot:¬ vs.toArray.size < 2:=fun q=>absurd (hv ▸ q:5 < 2) (by decide)
  unfold ksk_end
  rw [if_neg hnot]
  refine wpIfNeg (c:=false=true) Bool.false_ne_true (wpIfNeg hnot ?_)
  rw [ksk_kind (kz:=ks) iv (show 2≤us.length from hu ▸ by decide)]
  refine wpAny_bind (wpAny_pure (wpAny_bind (wpAny_mono (up (kat_run (vs:=vs) (ks:=us) (κ:=oneType') (E:=E) (A:=A) (prog:=g.prog) (w:=g.w) (s:=t)
      (Q:=fun st' t'=>t'=t∧failedOf st'=none∧(arrOf st').map (·.2)=List.toArray ((idx5 ks).map fun i=>vs.getD i Value.none))
      (G:=fun p t'=>t'=t∧p.toList=idx5 ks) hus (hv ▸ by decide) (hv ▸ by decide) (fun p st' s' hp har hf hG=>⟨hG.1,hf,by rw [kat_snds hus har,hG.2]⟩) ?_)) (fun r t' h=>?_) fun _ _ y=>y)))
  · rw [hv]
    refine tWp (n:=5) (c:=ltOf ks) (fun i j C s' hi hj hC=>?_) (sort5 hk5).1 ⟨rfl,(sort5 hk5).2⟩
    have at5:∀ q,q < 5→∃ tq,us.getD q Value.none = .int (ks.getD q 0) tq:=fun q hq=>by
      have hq':q < ks.length:=hk5 ▸ hq
      refine (iv.get q ks[q] (List.getElem?_eq_getElem hq')).imp fun tq htq=>?_
      rw [List.getD_eq_getElem?_getD,htq,List.getD_eq_getElem?_getD,List.getElem?_eq_getElem hq']
      rfl
    exact (at5 i hi).elim fun ti hti=>(at5 j hj).elim fun tj htj=>by
      unfold kas_ask
      rw [hti,htj]
      exact lt_ints hC
  · rw [h.1]
    have rk : VRs y (sortK ks xs) ((idx5 ks).map fun i=>vs.getD i Value.none):=by
      rw [sortK_idx hk5 h5]
      have hall:∀ i∈idx5 ks,i < 5:=fun i hi=>(List.mem_map.mp hi).elim fun p hp=>hp.2 ▸ (sortA_mem hp.1).elim (fun m=>(by decide:∀ q∈[0,1,2,3,4],q < 5) _ (List.of_mem_zip (show (p.1,p.2)∈_ from m)).2) fun m=>nomatch m
      revert hall
      generalize idx5 ks=q
      induction q with
      | nil=>exact fun _=>.nil
      | cons i r ih =>
        exact fun hall=>.cons ((hr.get (List.getElem?_eq_getElem (show i < xs.length from h5 ▸ hall i (.head _)))).elim fun u hu=>by
          show VR y (xs.getD i .none) (vs.getD i .none)
          rw [List.getD_eq_getElem?_getD,List.getD_eq_getElem?_getD,hu.1,List.getElem?_eq_getElem (show i < xs.length from h5 ▸ hall i (.head _))]
          exact hu.2) (ih fun j hj=>hall j (.tail _ hj))
    exact sort_tail z₀ z st hn i hk ((List.length_map _).trans hk5 ▸ by decide) h.2.2 rk (rk.length.trans (List.length_map _) ▸ (idx_len hk5) ▸ by decide) h.2.1 d
theorem sort_body {Q:PySem.Fin→Shared→Prop} {G:Heap} {fv:Value} (z₀:Rl g x₀ H s₀) (a:Amb x₀ s₀.heap A n hd) (keep:∀ b o,s₀.heap.get? b=some o→G.get? b=some o) (hn:s₀.heap.get? D=none) (hD:G.get? D=some (seqOb "list" vs k)) (hr:VRs x₀ xs vs) (h5:xs.length=5) (hf:VR x₀ f fv)
    (kk:Ky g n hd H f xs ks) (d:∀ {y' t'},Step [] x₀ s₀ y' t'→Rl g y' (H++[.list [],.list (sortK ks xs)]) t'→VR y' (.ob (H.length+1)) (.ref D)→Q (.done (.ret .none)) t'):wpAny g.M A (ksk_tree D fv false) Q E { s₀ with heap:=G }:=by
  have hsz:vs.toArray.size≤sizeLine:=size_le hr (h5 ▸ by decide)
  unfold ksk_tree
  refine wpAny_bind (up (listItems_at hD rfl (wpAny_bind (up (listUpdate_at hD rfl ?_ hsz (Nat.zero_le _))))))
  have ho1:(G.update D (Obj.mapSeq fun _=>(#[]:Array Value))).get? D=some (seqOb "list" [] (if (#[]:Array Value).size == vs.toArray.size then k else k+1)):=get?_update_seq hD fun _=>#[]
  have hu:=Heap.SameBut.update G D (Obj.mapSeq fun _=>(#[]:Array Value))
  revert ho1 hu
  generalize (if (#[]:Array Value).size == vs.toArray.size then k else k+1)=e1
  show _→_→wpAny _ _ _ _ _ { s₀ with heap:=_ }
  generalize G.update D (Obj.mapSeq fun _=>(#[]:Array Value))=G2
  intro ho1 hu
  refine wpAny_bind (up (seqEpoch_at ho1 rfl (wpAny_bind (up (wpAny_newTuple ?_ hsz)))))
  have k2:∀ b o,s₀.heap.get? b=some o→(G2.push (seqOb "tuple" vs 0)).get? b=some o:=fun b o q=>Heap.get?_push_of_some _ ((hu.2 b fun e=>absurd (hn.symm.trans (show s₀.heap.get? D=some o from e ▸ q)) nofun).trans (keep b o q))
  have ho2:(G2.push (seqOb "tuple" vs 0)).get? D=some (seqOb "list" [] e1):=Heap.get?_push_of_some _ ho1
  revert k2 ho2
  show _→_→wpAny _ _ _ _ _ { s₀ with heap:=G2.push (seqOb "tuple" vs 0) }
  generalize G2.push (seqOb "tuple" vs 0)=G3
  intro k2 ho2
  refine wpAny_bind (up (wpAny_newList ?_ (Nat.zero_le _)))
  refine wpAny_holding ?_
  have frk:s₀.heap.get? G3.objs.size=none:=match q:s₀.heap.get? G3.objs.size with
    | .none=>rfl
    | .some o=>absurd (Heap.lt_size (k2 _ _ q)) (Nat.lt_irrefl _)
  have zz:=z₀.add (h':=G3.push (seqOb "list" [] 0)) (tk:=s₀.toks) (a:=G3.objs.size) (o:=.list []) (fun b o q=>Heap.get?_push_of_some _ (k2 b o q)) frk ⟨[],0,Heap.get?_push_size _ rfl,.nil⟩
  have i1:Hid (x₀.add G3.objs.size) (G3.push (seqOb "list" [] 0)) D e1:=⟨Heap.get?_push_of_some _ ho2,fun q=>(add_own q).elim (z₀.fresh hn) fun e=>absurd (Heap.lt_size ho2) (e ▸ Nat.lt_irrefl _)⟩
  unfold ksk_rest
  refine wpAny_bind (wpAny_rule ?_)
  rw [List.forIn_toArray]
  refine wpAny_bind (keys_loop (fv:=fv) (D:=D) (e1:=e1) (kS:=G3.objs.size) (fun v s R' h=>?_) kk (hr.mono zz.2.le) zz.1 (by rw [h5];decide) (a.step0 zz.2) (hf.mono zz.2.le) (z₀.get _) i1 fun {y t} st z i=>?_)
  · refine wpAny_bind (wpAny_attempt (wpAny_mono h (fun k s' h'=>?_) fun _ _ hF=>hF.elim))
    exact wpAny_bind (wpAny_mono h' (fun _ s'' h''=>wpAny_pure h'') fun _ _ y=>y)
  · have hk:y.ρ[H.length]? = some G3.objs.size:=prefix_get st.le.1 (z₀.get _)
    exact (z.obj _ _ _ get_last hk).elim fun us o=>o.elim fun q o=>wpAny_bind (up (listItems_at o.1 rfl (sort_end z₀ z (zz.2.trW st) hn i hk o.2 (hr.mono (zz.2.trW st).le) h5 (kk.len.symm.trans h5) d)))
theorem in1_amb {y:Wd} {h:Heap} (a:Amb y h A (n+1) hd):Amb y h A.in1.in1 n hd:=⟨Nat.lt_of_le_of_lt (Nat.le_succ _) a.depth,by have:=a.units;show A.units+1+1+20 * n+200 < _;omega,a.hdl,a.frames⟩
theorem c_sorted {i j:Nat} (h:H[i]? = some (.list xs)) (h5:xs.length=5) (kk:Ky g n hd H (.ob j) xs ks):Call g (n+1) hd H (.bi "sorted") [.ob i] [("key",.ob j)] (.ob (H.length+1)) (H++[.list [],.list (sortK ks xs)]):=fun {x s A _ _ _} z a rf rv rk Q E d=>by
  obtain rfl:=(show _=Value.builtin "sorted" from rf)
  refine rv.cons_ (P:=fun us=>wpAny _ _ (PySem.call _ us _) _ _ _) fun u _ r1 r2=>r2.nil_ (P:=fun us=>wpAny _ _ (PySem.call _ (u :: us) _) _ _ _) (z.list h r1 (P:=fun u=>wpAny _ _ (PySem.call _ [u] _) _ _ _) fun l vs m ea g1 q1=>?_)
  refine rk.cons_ (P:=fun ks=>wpAny _ _ (PySem.call _ _ ks) _ _ _) fun w _ hf0 r3=>r3.nil_ (P:=fun ks=>wpAny _ _ (PySem.call _ _ (_ :: ks)) _ _ _) ?_
  have hf:=hf0
  refine hf0.elim fun q hq=>?_
  obtain rfl:=hq.2
  have hv:vs.length≤sizeLine:=size_le q1 (h5 ▸ by decide)
  refine call_function_entry_kw kind_sorted plain_sorted entry_sorted (ksk_s1 _ _) ?_
  unfold Builtin.«sorted»
  refine wpAny_bind (m:=checkCount "sorted" 1 1 _) (wpAny_pure (wpAny_bind (up (collect_list (isList g1) ?_ hv))))
  have k1:∀ b o,s.heap.get? b=some o→((s.heap.push (seqObj "list" #[] 0)).update s.heap.objs.size (Obj.mapSeq (·++vs.toArray))).get? b=some o:=fun b o q =>
    (Heap.get?_update_ne _ _ _ _ (Nat.ne_of_lt (Heap.lt_size q))).trans (Heap.get?_push_of_some _ q)
  revert k1
  show _→wpAny _ _ _ _ _ { s with heap:=_ }
  generalize (s.heap.push (seqObj "list" #[] 0)).update s.heap.objs.size (Obj.mapSeq (·++vs.toArray))=G
  intro k1
  refine wpAny_bind (up (wpAny_newList ?_ hv))
  have hn:s.heap.get? G.objs.size=none:=match q:s.heap.get? G.objs.size with
    | .none=>rfl
    | .some o=>absurd (Heap.lt_size (k1 _ _ q)) (Nat.lt_irrefl _)
  refine wpAny_bind (wpAny_holding (wpAny_call_entry_kw (name:="sort") slot_list_sort ⟨_,Heap.get?_push_size _ rfl,rfl⟩ entry_list_sort ?_ (ksk_l1 _ _)))
  refine (ksk_t1 _ _).symm ▸ sort_body (s₀:=s) (D:=G.objs.size) (G:=G.push (seqOb "list" vs 0)) (fv:=.ref q) z (in1_amb a) (fun b o q=>Heap.get?_push_of_some _ (k1 b o q)) hn (Heap.get?_push_size _ rfl) q1 h5 hf kk fun st z' r=>⟨_,rfl,wpAny_pure ⟨_,rfl,d st z' r⟩⟩
end
end Mine
namespace MineL
open PySem PySem.Calls PyProof.Rows PySem.W
section
variable {prog:Program} {w:World} {s:Shared} {A:Around} {E:Value→Shared→Prop}
theorem dictPut_pairs {d : Addr} {kvs : List (Str × Value)} {k:Str} {key v:Value} {Q:Unit→Shared→Prop} (hkey:(PySem.strKind prog w).is k key=true) (hm:s.heap.DictOf (PySem.strKind prog w) d kvs)
    (hQ:∀ h',h'.DictOf (PySem.strKind prog w) d (stored kvs k v)→Heap.SameBut d s.heap h'→Q () { s with heap:=h' }) (hsz:kvs.length≤sizeLine) :
    wpAny (model prog w) A (dictPut d ((PySem.strKind prog w).hash k) key v) Q E s:=by
  obtain ⟨o,es,ep,ho,hc,hd,hk,hp,hn⟩:=hm
  have hes : es.size ≤ sizeLine := by have e1:=hp.length;have e2:es.toList.length=es.size:=by simp
                                      omega
  unfold dictPut
  refine wpAny_bind (wpAny_dictFind_of hkey ho hd hk ?_)
  have hidx:(es.findIdx? fun e=>(PySem.strKind prog w).is k e.key)=kvs.findIdx? fun kv=>decide (kv.1=k):=by
    rw [←hp.findIdx k];obtain ⟨l⟩:=es;simp
  cases hi:es.findIdx? fun e=>(PySem.strKind prog w).is k e.key with
  | some i =>
    refine wpAny_updateDict ho hd (hQ _ ⟨_,_,ep,Heap.get?_update_self _ ho (Obj.isFreed_of_dict (Obj.data_mapDict hd _)),hc.mapDict _,Obj.data_mapDict hd _,hk.modify _ _,?_,?_⟩ (Heap.SameBut.update ..))
    · rw [stored,if_pos (any_of_findIdx_some (hidx ▸ hi))]
      have hl:(es.toList.findIdx? fun e=>(PySem.strKind prog w).is k e.key)=some i:=by rw [←hi];obtain ⟨l⟩:=es;simp
      have:=hp.modify hn hl v
      obtain ⟨l⟩:=es
      simpa using this
    · rw [stored,if_pos (any_of_findIdx_some (hidx ▸ hi)),keys_map_store];exact hn
  | none =>
    have hnot:k∉kvs.map (·.1):=not_mem_of_findIdx_none (hidx ▸ hi)
    have hany:¬ (kvs.any fun kv=>decide (kv.1=k))=true:=by
      rw [List.any_eq_true];rintro ⟨kv,hkv,he⟩
      exact hnot (List.mem_map.mpr ⟨kv,hkv,of_decide_eq_true he⟩)
    refine wpAny_updateDictKeys (hz:=hes) ho hd (hQ _ ⟨_,_,ep+1,Heap.get?_update_self _ ho (Obj.isFreed_of_dict (Obj.data_mapDictKeys hd _)),hc.mapDictKeys _,Obj.data_mapDictKeys hd _,hk.push hkey _,?_,?_⟩ (Heap.SameBut.update ..))
    · rw [stored,if_neg hany]
      have:=hp.append hkey ((PySem.strKind prog w).hash k) v
      obtain ⟨l⟩:=es
      simpa using this
    · rw [stored,if_neg hany,List.map_append,List.nodup_append]
      refine ⟨hn,by simp,?_⟩
      intro a ha b hb
      simp only [List.map_cons,List.map_nil,List.mem_singleton] at hb
      subst hb
      exact fun e=>hnot (e ▸ ha)
theorem noKeys_loop {M:Model} {f:DictEntry→PUnit→Sem (ForInStep PUnit)} {Q:PUnit→Shared→Prop}:∀ {l:List DictEntry},(∀ e∈l,f e ⟨⟩=pure (.yield ⟨⟩))→Q ⟨⟩ s→wpAny M A (forIn l PUnit.unit f) Q E s
  | [],_,h=>by rw [List.forIn_nil];exact wpAny_pure h
  | e :: r,hf,h=>by
    rw [List.forIn_cons,hf e List.mem_cons_self]
    exact wpAny_bind (wpAny_pure (noKeys_loop (fun x hx=>hf x (List.mem_cons_of_mem _ hx)) h))
theorem merge_loop {d a:Addr} {oa:Obj} {es:Array DictEntry} (hne:a≠d) (hk:PySem.KeysOf (PySem.strKind prog w) es)
    {f : Nat→PUnit→Sem (ForInStep PUnit)} (hf:∀ i (s:Shared) (R:ForInStep PUnit→Shared→Prop) (e:DictEntry),s.heap.get? a=some oa→es[i]? = some e →
      wpAny (model prog w) A (dictPut d e.hash e.key e.val) (fun _ s'=>s'.heap.get? a=some oa∧R (.yield ⟨⟩) s') E s→wpAny (model prog w) A (f i ⟨⟩) R E s) {l:List DictEntry} {kvs:List (Str × Value)} (hp:Pairs (PySem.strKind prog w) l kvs) :
    ∀ {i:Nat} {acc:List (Str × Value)} {s:Shared} {Q:PUnit→Shared→Prop},(∀ j,es[i+j]? = l[j]?)→acc.length+kvs.length≤1000→s.heap.get? a=some oa→s.heap.DictOf (PySem.strKind prog w) d acc →
      (∀ h',h'.DictOf (PySem.strKind prog w) d (merged acc kvs)→Heap.SameBut d s.heap h'→Q ⟨⟩ { s with heap:=h' })→wpAny (model prog w) A (forIn (List.range' i l.length) PUnit.unit f) Q E s:=by
  induction hp with
  | nil=>exact fun _ _ _ hm h=>wpAny_pure (h _ hm (Heap.SameBut.refl _ _))
  | @cons e q r kr h1 h2 _ ih =>
    intro i acc s Q he hl ho hm h
    have e0:es[i]? = some e:=he 0
    have kk:=hk e (Array.mem_of_getElem? e0)
    refine kk.elim fun k hkk=>?_
    have hkq:k=q.1:=(Value.isStrOf_shape hkk.1).elim fun t ht=>(Value.isStrOf_shape h1).elim fun u hu=>(Value.str.inj (ht.symm.trans hu)).1
    subst hkq
    show wpAny _ _ (forIn (List.range' i (r.length+1)) _ _) _ _ _
    rw [List.range'_succ,List.forIn_cons]
    refine wpAny_bind (hf i s _ e ho e0 ?_)
    rw [hkk.2]
    refine dictPut_pairs h1 hm (fun h' d' sb=>⟨(sb.2 a hne).trans ho,ih (i:=i+1) (acc:=stored acc q.1 e.val) (s:={ s with heap:=h' }) (fun j=>by rw [Nat.add_assoc,Nat.add_comm 1];exact he (j+1))
      (Nat.le_trans (Nat.add_le_add_right (merged_length_le acc [(q.1,e.val)]) _) (Nat.le_trans (Nat.le_of_eq (by rw [Nat.add_assoc,Nat.add_comm _ kr.length];rfl)) hl)) ((sb.2 a hne).trans ho) d' fun h2' d2 sb2=>h h2' (by rw [h2] at d2;exact d2) (sb.trans sb2)⟩)
      (Nat.le_trans (Nat.le_trans (Nat.le_add_right _ _) hl) Mine.bigLine)
theorem if_both {α:Type} {M:Model} {c:Prop} [Decidable c] {a b:Sem α} {Q:α→Shared→Prop} (h:wpAny M A b Q E s→wpAny M A a Q E s) (hb:wpAny M A b Q E s):wpAny M A (if c then a else b) Q E s:=if hc:c then if_pos' hc (h hb) else if_neg' hc hb
theorem merge_wp {d a:Addr} {acc kvs:List (Str × Value)} {Q:Unit→Shared→Prop} (hne:a≠d) (hlo:(a == sysModules)=false) (hd:s.heap.DictOf (PySem.strKind prog w) d acc) (ha:s.heap.DictOf (PySem.strKind prog w) a kvs) (hsz:acc.length+kvs.length≤1000)
    (h:∀ h',h'.DictOf (PySem.strKind prog w) d (merged acc kvs)→Heap.SameBut d s.heap h'→Q () { s with heap:=h' }):wpAny (model prog w) A (mergeMapping d (.ref a) false) Q E s:=by
  have hT:=ha.typeIs (s:=s)
  obtain ⟨o,es,ep,ho,hc,hda,hk,hp,hn⟩:=ha
  have hd0:=hd
  obtain ⟨o2,es2,ep2,ho2,hc2,hda2,hk2,hp2,hn2⟩:=hd
  have de:∀ {b:Addr} {ob:Obj} {xs:Array DictEntry} {k:Nat} {s:Shared} {R:Array DictEntry→Shared→Prop},s.heap.get? b=some ob→ob.data = .dict xs k→R xs s→wpAny (model prog w) A (dictEntries b) R E s:=fun g q r=>by
    unfold dictEntries
    refine wpAny_bind (wpAny_loadPart g ?_)
    rw [q];exact wpAny_pure r
  have dp:∀ {b:Addr} {ob:Obj} {xs:Array DictEntry} {k:Nat} {s:Shared} {R:Nat→Shared→Prop},s.heap.get? b=some ob→ob.data = .dict xs k→R k s→wpAny (model prog w) A (dictEpoch b) R E s:=fun g q r=>by
    unfold dictEpoch
    refine wpAny_bind (wpAny_loadPart g ?_)
    rw [q];exact wpAny_pure r
  unfold mergeMapping
  refine wpAny_bind (wpAny_isInstance hT (show isSubtype (.type "dict") (.type "dict")=pure true by rw [isSubtype_type];kernel_rfl) ?_)
  refine if_pos' rfl ?_
  refine wpAny_bind (wpAny_specialOf hT (show typeLookup (.type "dict") "__iter__" = pure (some (.builtin "dict.__iter__")) by rw [typeLookup_type,builtinLookup_eq_fast];kernel_rfl) ?_)
  refine wpAny_bind (wpAny_pure ?_)
  rw [show ((some (Value.builtin "dict.__iter__"):Option Value) == some (.builtin "dict.__iter__"))=true by decide]
  refine if_neg' (Bool.eq_false_iff.mp hlo) ?_
  refine wpAny_bind (de ho2 hda2 (if_both (fun rest=>wpAny_bind (de ho hda (wpAny_bind ?_))) (wpAny_bind (de ho hda (wpAny_bind (dp ho hda ?_))))))
  · rw [←Array.forIn_toList]
    refine noKeys_loop (fun e he=>?_) rest
    exact (hk e (Array.mem_toList_iff.mp he)).elim fun k q=>(Value.isStrOf_shape q.1).elim fun t ht=>by rw [ht]
  · rw [List.range_eq_range']
    refine wpAny_bind (merge_loop (i:=0) hne hk (fun i s R e ge he hput=>wpAny_bind (de ge hda ?_)) hp (fun j=>by rw [Nat.zero_add,Array.getElem?_toList]) hsz ho hd0 fun h' d' sb=>wpAny_pure (h h' d' sb))
    rw [he]
    exact wpAny_bind (wpAny_holding (wpAny_mono hput (fun _ s' h'=>wpAny_bind (dp h'.1 hda (if_neg' (fun q=>nomatch (bne_self_eq_false ep).symm.trans q) (wpAny_pure h'.2)))) fun _ _ x=>x))
end
end MineL
namespace Mine
open PySem PySem.Calls PyProof.Rows PySem.W
section
variable {c:Cx} {g:Gx} {x y:Wd} {H H1 H2:AHeap} {s t:Shared} {A:Around} {l:Loc} {env:Env} {n:Nat} {hd:Bool} {E:Post Value} {es fs:List (Str × AV)} {pos pa pb:Pos}
theorem wpAny_tryCatch {α:Type} {M:Model} {m:Sem α} {k:Value→Sem α} {Q:α→Shared→Prop} (h:wpAny M A m Q (fun e s'=>wpAny M A (k e) Q E s') s):wpAny M A (tryCatch m k) Q E s:=fun Γ p hΓ g=>by
  rw [Sem.wp_tryCatch']
  exact Sem.wp_mono M Γ m (fun _ _ _ h'=>h') (fun e p' s' h'=>h' Γ p' hΓ g) p s (h Γ p hΓ g)
noncomputable def mergeD (es fs:List (Str × AV)):List (Str × AV):=fs.foldl (fun a q=>putD q.1 q.2 a) es
theorem NRs.merge {us:List (Str × Value)} (h:NRs x fs us):∀ {es:List (Str × AV)} {vs:List (Str × Value)},NRs x es vs→(vs.map (·.1)).Nodup→NRs x (mergeD es fs) (PySem.merged vs us):=by
  induction h with
  | nil=>exact fun h _=>h
  | @cons k a v as us h1 _ ih =>
    intro es vs h nd
    refine ih (h.stored h1 nd) ?_
    show ((if (vs.any fun kv=>decide (kv.1=k))=true then _ else vs++[(k,v)]:List (Str × Value)).map (·.1)).Nodup
    by_cases ha:(vs.any fun kv=>decide (kv.1=k))=true
    · rw [if_pos ha,keys_map_store];exact nd
    · rw [if_neg ha,List.map_append]
      exact List.nodup_append.mpr ⟨nd,List.nodup_cons.mpr ⟨nofun,.nil⟩,fun a h1 b h2 e=>(List.mem_map.mp h1).elim fun p hp=>ha (List.any_eq_true.mpr ⟨p,hp.1,decide_eq_true (hp.2.trans (e.trans (List.mem_singleton.mp h2)))⟩)⟩
theorem ev_dict0:Ev c l H (.Dict [] [] pos) (.ob H.length) (H++[.dict []]):=fun {x s A env} p _ _ d=>by
  rw [arm_eval_Dict]
  refine wpAny_bind (wpAny_standAt (show wpAny _ _ newDict _ _ _ from ?_))
  unfold newDict
  exact wpAny_newObj_type (d.new p.z rfl (fun {h} e=>⟨[],⟨_,#[],0,e,⟨rfl,rfl,rfl⟩,rfl,(fun _ m=>nomatch Array.mem_toList_iff.mpr m),Pairs.nil,.nil⟩,.nil⟩) s.toks)
theorem ev_dict1 {k:Str} {i:Int} {ki ii:Nat} {kp ip:Pos}:Ev c l H (.Dict [some (.Constant (.str k) ki kp)] [.Constant (.int i) ii ip] pos) (.ob H.length) (H++[.dict [(k,.int i)]]):=fun {x s A env} p Q E d=>by
  rw [arm_eval_Dict]
  refine wpAny_bind (wpAny_standAt ?_)
  have hs:(evalEachOpt [some (.Constant (.str k) ki kp)] env).zip ((evalEach [.Constant (.int i) ii ip] env).map fun v=>(do let x ←v;standAt pos;pure x:Sem Value)) =
      [(eval (.Constant (.str k) ki kp) env,(do let x ←eval (.Constant (.int i) ii ip) env;standAt pos;pure x:Sem Value))].map fun p=>(some p.1,p.2):=rfl
  rw [hs,dictDisplay_pairs _ (by simp) (by simp)]
  refine wpAny_bind ?_
  unfold subDict
  refine wpAny_bind (wpAny_alloc (wpAny_bind (wpAny_holding ?_)))
  refine wpIfPos (by decide:1≤15) (wpAny_bind ?_)
  rw [evalPairs]
  refine wpAny_bind (wpAny_Constant_str (wpAny_bind (wpAny_holding (wpAny_bind ?_))))
  refine (show wpAny _ _ (constValue env (.int i)) _ _ _ from ?_)
  refine wpAny_mkInt (wpAny_bind (wpAny_standAt (wpAny_pure ?_)))
  refine wpAny_bind (wpAny_holding ?_)
  rw [evalPairs]
  refine wpAny_pure (wpAny_pure ?_)
  refine wpAny_holding (wpAny_bind ?_)
  rw [List.forIn_cons]
  refine wpAny_bind (wpAny_bind (up (wpAny_dictSet_pairs (knd:=c.g.kd) (kvs:=[]) (strKind_is _ _ k s.toks) (Heap.DictOf.new _) (fun h' hd hsb=>?_) (Nat.zero_le _))))
  refine wpAny_pure (show wpAny _ _ (forIn [] PUnit.unit _) _ _ _ from ?_)
  rw [List.forIn_nil]
  refine wpAny_pure (wpAny_pure (wpAny_pure (wpAny_pure ?_)))
  have z1:=p.z.toks (s.toks+1)
  have z2:=z1.1.newInt i
  have z3:=z2.1.add (h':=h') (tk:=s.toks+1+1+1) (a:=s.heap.objs.size) (o:=.dict [(k,.int i)]) (fun b o e=>(hsb.2 b (Nat.ne_of_lt (Heap.lt_size e))).trans (Heap.get?_push_of_some _ e)) (Heap.get?_none_of_le (Nat.le_refl _))
    ⟨_,hd,.cons ((VR.newI x (s.toks+1) i).mono (Wd.le_add _ _)) .nil⟩
  exact d ((z1.2.trW z2.2).trW z3.2) z3.1 ⟨_,z2.1.get _,rfl⟩
theorem loc_wp {k:K} {nm:Str} {v:AV} {Q:Post Value} (h:locQ k nm=true) (e:l.lookup nm=some v) (r:EnvB x s.heap k l env) (d:∀ {u},VR x v u→Q u s):wpAny g.M A (eval (.Name nm pos) env) Q E s:=
  have q:=and2 h
  r.ns.elim fun _ n=>(n.2 nm v e).elim fun _ m=>wpAny_Name (wpAny_loadName_local r.kindE ((r.kof nm).trans (eq_of_beq q.1)) n.1 m.1 (d m.2)) q.2
theorem noSys (z:Rl g x H s) {b:Addr} (m:b∈x.ρ):(b == sysModules)=false:=beq_eq_false_iff_ne.mpr fun e=>absurd (z.low b m) (by rw [e];decide)
theorem ev_dict2 {ka kb:Str} {i j:Nat} (ha:locQ c.k ka=true) (ea:l.lookup ka=some (.ob i)) (hb:locQ c.k kb=true) (eb:l.lookup kb=some (.ob j)) (h1:H[i]? = some (.dict es)) (h2:H[j]? = some (.dict fs)) (hl:es.length+fs.length≤1000) :
    Ev c l H (.Dict [none,none] [.Name ka pa,.Name kb pb] pos) (.ob H.length) (H++[.dict (mergeD es fs)]):=fun {x s A env} p Q E d=>by
  rw [arm_eval_Dict]
  refine wpAny_bind (wpAny_standAt ?_)
  have hs:(evalEachOpt [none,none] env).zip ((evalEach [.Name ka pa,.Name kb pb] env).map fun v=>(do let x ←v;standAt pos;pure x:Sem Value)) =
      [(none,(do let x ←eval (.Name ka pa) env;standAt pos;pure x:Sem Value)),(none,(do let x ←eval (.Name kb pb) env;standAt pos;pure x:Sem Value))]:=rfl
  rw [hs]
  unfold dictDisplay
  have hnew:s.heap.get? s.heap.objs.size=none:=Heap.get?_none_of_le (Nat.le_refl _)
  refine wpAny_bind ?_
  rw [List.forIn_cons]
  refine wpAny_bind (wpAny_bind (wpIfPos rfl (wpAny_pure (wpAny_bind (wpAny_alloc ?_)))))
  have z1:=p.z.stay (h':=s.heap.push { cls:=.type "dict",data:=.dict #[] }) (tk:=s.toks) (fun b o e=>Heap.get?_push_of_some _ e)
  refine wpAny_bind (wpAny_holding (wpAny_bind (loc_wp ha ea (p.r.b.step z1.2) fun {u} hv=>wpAny_bind (wpAny_standAt (wpAny_pure ?_)))))
  refine hv.elim fun a1 q1=>?_
  obtain rfl:=q1.2
  refine (z1.1.obj _ _ a1 h1 q1.1).elim fun vs o1=>?_
  have m1:=List.mem_of_getElem? q1.1
  have nd1:=dictOf_nodup o1.1
  refine wpAny_bind (wpAny_onRaise (wpAny_tryCatch (wpAny_onRaise (wpAny_holding (up (MineL.merge_wp (fun e=>p.z.fresh hnew (e ▸ .inl m1)) (noSys z1.1 m1) (Heap.DictOf.new _) o1.1 ?_ fun h' hd hsb=>?_))))))
  · exact Nat.le_trans (Nat.le_of_eq ((Nat.zero_add _).trans o1.2.length.symm)) (Nat.le_trans (Nat.le_add_right _ _) hl)
  rw [merged_nil_of_nodup vs nd1] at hd
  refine wpAny_pure (show wpAny _ _ (forIn (_ :: _) _ _) _ _ _ from ?_)
  have k2:∀ b o,s.heap.get? b=some o→h'.get? b=some o:=fun b o e=>(hsb.2 b (Nat.ne_of_lt (Heap.lt_size e))).trans (Heap.get?_push_of_some _ e)
  have z2:=p.z.stay (h':=h') (tk:=s.toks) k2
  rw [List.forIn_cons]
  refine wpAny_bind (wpAny_bind (wpIfPos rfl (wpAny_pure (wpAny_bind (wpAny_pure ?_)))))
  refine wpAny_bind (wpAny_holding (wpAny_bind (loc_wp hb eb (p.r.b.step z2.2) fun {u} hv=>wpAny_bind (wpAny_standAt (wpAny_pure ?_)))))
  refine hv.elim fun a2 q2=>?_
  obtain rfl:=q2.2
  refine (z2.1.obj _ _ a2 h2 q2.1).elim fun us o2=>?_
  have m2:=List.mem_of_getElem? q2.1
  refine wpAny_bind (wpAny_onRaise (wpAny_tryCatch (wpAny_onRaise (wpAny_holding (up (MineL.merge_wp (fun e=>p.z.fresh hnew (e ▸ .inl m2)) (noSys z2.1 m2) hd o2.1 (by rw [←o1.2.length,←o2.2.length];exact hl) fun h2 hd2 hsb2=>?_))))))
  refine wpAny_pure (show wpAny _ _ (forIn [] _ _) _ _ _ from ?_)
  rw [List.forIn_nil]
  refine wpAny_pure (wpAny_bind (wpIfPos rfl (wpAny_pure (wpAny_pure ?_))))
  have z3:=p.z.add (h':=h2) (tk:=s.toks) (a:=s.heap.objs.size) (o:=.dict (mergeD es fs)) (fun b o e=>(hsb2.2 b (Nat.ne_of_lt (Heap.lt_size e))).trans (k2 b o e)) hnew ⟨_,hd2,NRs.merge (o2.2.mono (Wd.le_add _ _)) (o1.2.mono (Wd.le_add _ _)) nd1⟩
  exact d z3.2 z3.1 ⟨_,p.z.get _,rfl⟩
end
structure Fed (α:Type) where
  pre:List Addr
  post:List Addr
  ob:Obj
  tk:Nat
  v : α
noncomputable def grow {α:Type} (S:Setting) (oT:Obj) (D:Addr) (t:Sem α):Option Obj→Nat→Option (Fed α):=
  Sem.rec (motive:=fun _=>Option Obj→Nat→Option (Fed α)) (fun a c tk=>c.map fun o=>⟨[],[],o,tk,a⟩) (fun _ _ _=>none) (fun _ _ _=>none) (fun _ _ _=>none) (fun _ _ k=>k ()) (fun _ _ _ _ _=>none)
    (fun a _ _ k c tk=>match c with
      | none=>(k oT c tk).map fun r=>{ r with pre:=a :: r.pre }
      | some o=>(k o c tk).map fun r=>{ r with post:=a :: r.post })
    (fun a _ f _ k c tk=>match c with
      | none=>none
      | some o=>if (f o).isFreed then none else (k () (some (f o)) tk).map fun r=>{ r with post:=a :: r.post })
    (fun o _ k c tk=>match c with
      | none=>if o.isFreed then none else k D (some o) tk
      | some _=>none)
    (fun _ _ _ _ _=>none) (fun _ _ k=>k ()) (fun _ _ _ _ _=>none) (fun _ k c tk=>k tk c (tk+1)) (fun _ k=>k S) (fun _ _ _ _ _ _=>none) (fun _ _ _ _ _ _=>none) (fun _ _ _ _ _ _ _ _=>none) (fun _ _ _ _ _=>none) (fun _ _ _ _ _=>none)
    (fun _ _ _ _ _=>none) (fun _ _ _ _ _ _ _=>none) (fun _ _ _ _ _ _ _=>none) (fun _ _ _ _=>none) (fun _ _ _ _ _=>none) (fun _ _ _ _=>none) (fun _ _ _ _ _ _ _ _=>none) t
noncomputable def GrowAt (s₀ s:Shared) (D:Addr) (c:Option Obj) (tk:Nat):Prop:=match c with
  | none=>s={ s₀ with toks:=tk }∧s₀.toks≤tk
  | some o=>∃ h,s={ s₀ with heap:=h,toks:=tk }∧s₀.toks≤tk∧h.get? D=some o∧∀ b o,s₀.heap.get? b=some o→h.get? b=some o
structure FedOk {α:Type} (Q:Post α) (s₀:Shared) (T:Addr) (r:Fed α):Prop where
  p1:∀ a∈r.pre,a=T
  p2:∀ a∈r.post,a=s₀.heap.objs.size
  q : ∀ h,s₀.toks≤r.tk→h.get? s₀.heap.objs.size=some r.ob→(∀ b o,s₀.heap.get? b=some o→h.get? b=some o)→Q r.v { s₀ with heap:=h,toks:=r.tk }
noncomputable def GrowOk {α:Type} (M:Model) (A:Around) (E:Post Value) (Q:Post α) (s₀:Shared) (oT:Obj) (T:Addr) (t:Sem α):Prop:=
  ∀ {c:Option Obj} {tk:Nat} {s:Shared} {r:Fed α},grow ⟨M.prog,M.w.params⟩ oT s₀.heap.objs.size t c tk=some r→FedOk Q s₀ T r→GrowAt s₀ s s₀.heap.objs.size c tk→PySem.wpAny M A t Q E s
section
variable {α:Type} {M:Model} {A:Around} {E:Post Value} {Q:Post α} {s₀:Shared} {oT:Obj} {T:Addr}
theorem grow_none {t:Sem α} (h:∀ S c tk,grow S oT s₀.heap.objs.size t c tk=none):GrowOk M A E Q s₀ oT T t:=fun e=>none_some ((h _ _ _).symm.trans e)
theorem GrowAt.none_ {s:Shared} {D:Addr} {tk:Nat} (g:GrowAt s₀ s D none tk) {P:Shared→Prop} (k:s₀.toks≤tk→P { s₀ with toks:=tk }):P s:=g.1 ▸ k g.2
theorem GrowAt.some_ {s:Shared} {D:Addr} {tk:Nat} {o:Obj} (g:GrowAt s₀ s D (some o) tk) {P:Shared→Prop} (k:∀ h,s₀.toks≤tk→h.get? D=some o→(∀ b o,s₀.heap.get? b=some o→h.get? b=some o)→P { s₀ with heap:=h,toks:=tk }):P s:=g.elim fun h g=>g.1 ▸ k h g.2.1 g.2.2.1 g.2.2.2
theorem map_some_ {β γ:Type} {f:β→γ} {x:Option β} {r:γ} (e:x.map f=some r) {P:γ→Prop} (k:∀ r',x=some r'→P (f r')):P r:=(Option.map_eq_some_iff.mp e).elim fun r' w=>w.2 ▸ k r' w.1
theorem grow_pure (a:α):GrowOk M A E Q s₀ oT T (.pure a):=fun {c tk s r} e f g=>match c,e,g with
  | none,e,g=>none_some e
  | some o,e,g=>g.some_ (P:=fun s=>PySem.wpAny M A _ Q E s) fun h g1 g2 g3=>by cases e;exact PySem.wpAny_pure (f.q h g1 g2 g3)
theorem grow_fresh {k:Tok→Sem α} (ih:∀ t,GrowOk M A E Q s₀ oT T (k t)):GrowOk M A E Q s₀ oT T (.fresh k):=fun {c tk s r} e f g Γ p hΓ=>by
  have e:grow _ oT _ (k tk) c (tk+1)=some r:=e
  match c,e,g with
  | none,e,g=>rw [g.1];exact ih tk e f ⟨rfl,Nat.le_succ_of_le g.2⟩ Γ p hΓ
  | some o,e,g=>exact g.elim fun h g=>by rw [g.1];exact ih tk e f ⟨h,rfl,Nat.le_succ_of_le g.2.1,g.2.2⟩ Γ p hΓ
theorem grow_load {a:Addr} {pt:Option Value} {k:Obj→Sem α} (hT:s₀.heap.get? T=some oT) (ih:∀ t,GrowOk M A E Q s₀ oT T (k t)):GrowOk M A E Q s₀ oT T (.load a pt k):=fun {c tk s r} e f g Γ p hΓ=>match c,e,g with
  | none,e,g=>map_some_ (show (grow _ oT _ (k oT) none tk).map _=_ from e) (P:=fun r=>FedOk Q s₀ T r→∃ o,s.heap.get? a=some o∧Sem.wp M Γ (k o) (fun a _ s'=>Q a s') (fun e _ s'=>E e s') p s) (fun r' w f=>⟨oT,g.none_ (P:=fun s=>s.heap.get? a=some oT) fun _=>(f.p1 a (.head _)).symm ▸ hT,ih oT w ⟨fun b m=>f.p1 b (.tail _ m),f.p2,f.q⟩ g Γ p hΓ⟩) f
  | some o,e,g=>map_some_ (show (grow _ oT _ (k o) (some o) tk).map _=_ from e) (P:=fun r=>FedOk Q s₀ T r→∃ o,s.heap.get? a=some o∧Sem.wp M Γ (k o) (fun a _ s'=>Q a s') (fun e _ s'=>E e s') p s) (fun r' w f=>⟨o,g.some_ (P:=fun s=>s.heap.get? a=some o) fun h _ g2 _=>(f.p2 a (.head _)).symm ▸ g2,ih o w ⟨f.p1,fun b m=>f.p2 b (.tail _ m),f.q⟩ g Γ p hΓ⟩) f
theorem grow_update {a:Addr} {pt:Option Value} {f:Obj→Obj} {k:Unit→Sem α} (ih:∀ t,GrowOk M A E Q s₀ oT T (k t)):GrowOk M A E Q s₀ oT T (.update a pt f k):=fun {c tk s r} e ff g Γ p hΓ=>match c,e,g with
  | none,e,g=>none_some e
  | some o,e,g=>if hf:(f o).isFreed=true then none_some ((if_pos hf).symm.trans e) else
    map_some_ (show (grow _ oT _ (k ()) (some (f o)) tk).map _=_ from (if_neg hf).symm.trans e) (P:=fun r=>FedOk Q s₀ T r→(s.heap.get? a).isSome=true∧Sem.wp M Γ (k ()) (fun a _ s'=>Q a s') (fun e _ s'=>E e s') p { s with heap:=s.heap.update a f }) (fun r' w ff=>g.elim fun h g=>by
      rw [ff.p2 a (.head _),g.1]
      exact ⟨by rw [g.2.2.1];rfl,ih () w ⟨ff.p1,fun b m=>ff.p2 b (.tail _ m),ff.q⟩ ⟨_,rfl,g.2.1,Heap.get?_update_self f g.2.2.1 (Bool.eq_false_iff.mpr hf),fun b o' e=>(Heap.get?_update_ne _ _ _ _ (Nat.ne_of_lt (Heap.lt_size e))).trans (g.2.2.2 b o' e)⟩ Γ p hΓ⟩) ff
theorem grow_alloc {o:Obj} {k:Addr→Sem α} (ih:∀ t,GrowOk M A E Q s₀ oT T (k t)):GrowOk M A E Q s₀ oT T (.alloc o k):=fun {c tk s r} e f g Γ p hΓ=>match c,e,g with
  | some _,e,g=>none_some e
  | none,e,g=>if hf:o.isFreed=true then none_some ((if_pos hf).symm.trans e) else by
      rw [g.1]
      exact ih _ (show grow _ oT _ (k _) (some o) tk=_ from (if_neg hf).symm.trans e) f ⟨_,rfl,g.2,Heap.get?_push_size _ (Bool.eq_false_iff.mpr hf),fun b o' e=>Heap.get?_push_of_some _ e⟩ Γ p hΓ
theorem grow_skip {k:Sem α} {t:Sem α} (ih:GrowOk M A E Q s₀ oT T k) (h:∀ S c tk,grow S oT s₀.heap.objs.size t c tk=grow S oT s₀.heap.objs.size k c tk) (w:∀ s,PySem.wpAny M A k Q E s→PySem.wpAny M A t Q E s):GrowOk M A E Q s₀ oT T t:=fun e f g=>w _ (ih ((h _ _ _).symm.trans e) f g)
theorem grow_wp (hT:s₀.heap.get? T=some oT) {t:Sem α}:GrowOk M A E Q s₀ oT T t:=by
  induction t with
  | pure a=>exact grow_pure a
  | rule _ k ih=>exact grow_skip (ih ()) (fun _ _ _=>rfl) fun _ h=>h
  | point _ k ih=>exact grow_skip (ih ()) (fun _ _ _=>rfl) fun _ h=>h
  | ask k ih=>exact fun e=>ih _ e
  | fresh k ih=>exact grow_fresh ih
  | load a _ k ih=>exact grow_load hT ih
  | update a _ f k ih=>exact grow_update ih
  | alloc o k ih=>exact grow_alloc ih
  | _ => exact grow_none fun _ _ _=>rfl
end
noncomputable def canonS (a:Arguments):Arguments:=⟨[],[⟨"parent",none,(a.args.getD 0 default).pos⟩,⟨"tag",none,(a.args.getD 1 default).pos⟩,⟨"attrib",none,(a.args.getD 2 default).pos⟩],none,[],a.kw_defaults,some ⟨"extra",none,(a.kwarg.getD default).pos⟩,a.defaults⟩
theorem sub_canon:dSubEl.params=canonS dSubEl.params:=by kernel_rfl
section
variable {x:Wd} {H H1 H2:AHeap} {s:Shared} {nm q:Str} {pa:Arguments} {body:List Stmt} {scope:Scope} {doc pm cd ct a b c u w d:Value} {an:Option Addr} {T D:Addr} {n tk:Nat} {S:Setting}
noncomputable def subB (a b c d:Value):List (Str × Value):=[("parent",a),("tag",b),("attrib",c),("extra",d)]
noncomputable def kwOb (S:Setting) (tk:Nat) (u w:Value):Obj:={ cls:=.type "dict",data:=.dict #[⟨reduceHash (S.params.strHash ("bend" : Str).cps),.str "bend" tk,u⟩,⟨reduceHash (S.params.strHash ("name" : Str).cps),.str "name" (tk+1),w⟩] 2 }
theorem grow_sub0:grow S (seqOb "tuple" [d] n) D (bindArgs (fnOf nm q (canonS pa) body scope (.ref T) .none doc pm an cd ct) ⟨[a,b,c],[]⟩) none tk=some ⟨[T],[],{ cls:=.type "dict",data:=.dict #[] },tk,subB a b c (.ref D)⟩:=by kernel_rfl
theorem grow_sub2:grow S (seqOb "tuple" [d] n) D (bindArgs (fnOf nm q (canonS pa) body scope (.ref T) .none doc pm an cd ct) ⟨[a,b,c],[("bend",u),("name",w)]⟩) none tk=some ⟨[T],[D,D,D,D],kwOb S tk u w,tk+2,subB a b c (.ref D)⟩:=by kernel_rfl
theorem dict_kw {g:Gx} {h:Heap} (e:h.get? D=some (kwOb ⟨g.prog,g.w.params⟩ tk u w)):h.DictOf g.kd D [("bend",u),("name",w)]:=
  ⟨_, _,2,e,⟨rfl,rfl,rfl⟩,rfl,fun e m=>(List.mem_cons.mp (Array.mem_def.mp m)).elim (fun q=>q ▸ ⟨"bend",strKind_is _ _ _ _,rfl⟩) fun m=>List.mem_singleton.mp m ▸ ⟨"name",strKind_is _ _ _ _,rfl⟩,.cons (strKind_is _ _ _ _) rfl (.cons (strKind_is _ _ _ _) rfl .nil),
    (by decide:[Str.ofString "bend",Str.ofString "name"].Nodup)⟩
theorem dict_nil {g:Gx} {h:Heap} (e:h.get? D=some { cls:=.type "dict",data:=.dict #[] }):h.DictOf g.kd D []:=⟨_,#[],0,e,⟨rfl,rfl,rfl⟩,rfl,(fun _ m=>nomatch Array.mem_toList_iff.mpr m),.nil,.nil⟩
end
section
variable {g:Gx} {x:Wd} {H H1 H2:AHeap} {s:Shared} {A:Around} {n:Nat} {hd:Bool} {p t a v:AV} {kws:List (Str × AV)} {l1 l2:Loc}
noncomputable def subA (H:AHeap) (p t a:AV):List (Str × AV):=[("parent",p),("tag",t),("attrib",a),("extra",.ob H.length)]
theorem sub_any {us:List Value} {ks:List (Str × Value)} {ob:Obj} {po:Addr→List Addr} {m:Nat} {Q E:Post Value} (z:Rl g x H s) (am:Amb x s.heap A (n+1) hd) (r1:VRs x [p,t,a] us) (r2:NRs x kws ks)
    (gr:∀ doc pm an cd ct u1 u2 u3 T d k D,grow ⟨g.prog,g.w.params⟩ (seqOb "tuple" [d] k) D (bindArgs (fnOf dSubEl.name dSubEl.name (canonS dSubEl.params) dSubEl.body dSubEl.scope (.ref T) .none doc pm an cd ct) ⟨[u1,u2,u3],ks⟩) none s.toks=some ⟨[T],po D,ob,s.toks+m,subB u1 u2 u3 (.ref D)⟩)
    (hpo:∀ D,∀ q∈po D,q=D) (hD:∀ (h:Heap) D,h.get? D=some ob→h.DictOf g.kd D ks)
    (bs:Bs g (kOf dSubEl hd (H++[AObj.dict kws]).length) [] (H++[AObj.dict kws]++cellsN dSubEl.scope.names) (subA H p t a) l1 H1) (hx:Ex ⟨g,n,kOf dSubEl hd (H++[AObj.dict kws]).length⟩ l1 H1 dSubEl.body ⟨.ret v,l2,H2⟩) (dn:Ok g VR x s v H2 Q):wpAny g.M A (PySem.call (.ref dSubEl.addr) us ks) Q E s:=by
  refine r1.cons_ (P:=fun us=>wpAny _ _ (PySem.call _ us _) _ _ _) fun u1 _ q1 r1=>r1.cons_ (P:=fun us=>wpAny _ _ (PySem.call _ (u1 :: us) _) _ _ _) fun u2 _ q2 r1=>r1.cons_ (P:=fun us=>wpAny _ _ (PySem.call _ (u1 :: u2 :: us) _) _ _ _) fun u3 _ q3 r1=>r1.nil_ (P:=fun us=>wpAny _ _ (PySem.call _ (u1 :: u2 :: u3 :: us) _) _ _ _) ?_
  refine def_wp (H1:=H++[AObj.dict kws]) z am (by simp [defTab]) bs hx (fun fd o e q A Q E k=>?_) dn
  refine (z.tp.fns dSubEl (by simp [defTab])).rec fun {dV kV doc pm ct c an dd} e1 _ dv _=>?_
  unfold DfV at dv
  rw [if_neg (show ¬ dflD dSubEl=true by decide +kernel),if_pos (show dSubEl.addr=122 from rfl)] at dv
  refine dv.2.elim fun T dv2=>dv2.elim fun d dv2=>dv2.elim fun m' dv2=>?_
  rw [e1] at e
  obtain rfl:=Option.some.inj e
  obtain rfl:=Data.func.inj q
  rw [dv.1,dv2.1,sub_canon]
  refine up (grow_wp dv2.2 (gr doc pm an (.ref c) ct u1 u2 u3 T d m' _) ⟨fun a m=>List.mem_singleton.mp m,hpo _,fun h ht hn hk=>?_⟩ ⟨rfl,Nat.le_refl _⟩)
  have zz:=z.add (h':=h) (tk:=s.toks+m) (o:=.dict kws) hk (Heap.get?_none_of_le (Nat.le_refl _)) ⟨ks,hD _ _ hn,r2.mono (x.le_add _)⟩ ht
  exact k zz.2 zz.1 (.cons (q1.mono zz.2.le) (.cons (q2.mono zz.2.le) (.cons (q3.mono zz.2.le) (.cons ⟨_,z.get _,rfl⟩ .nil))))
theorem call_sub0 (bs:Bs g (kOf dSubEl hd (H++[AObj.dict []]).length) [] (H++[AObj.dict []]++cellsN dSubEl.scope.names) (subA H p t a) l1 H1) (hx:Ex ⟨g,n,kOf dSubEl hd (H++[AObj.dict []]).length⟩ l1 H1 dSubEl.body ⟨.ret v,l2,H2⟩):Call g (n+1) hd H (.top 122) [p,t,a] [] v H2:=fun {x s A fv us ks} z am rf r1 r2 Q E dn =>
  rf.1 ▸ r2.nil_ (P:=fun ks=>wpAny _ _ (PySem.call _ us ks) _ _ _) (sub_any (po:=fun _=>[]) (m:=0) z am r1 .nil (fun _ _ _ _ _ _ _ _ _ _ _ _=>grow_sub0) (fun _ _ m=>nomatch m) (fun _ _ e=>dict_nil e) bs hx dn)
theorem call_sub2 {b c:AV} (bs:Bs g (kOf dSubEl hd (H++[AObj.dict [("bend",b),("name",c)]]).length) [] (H++[AObj.dict [("bend",b),("name",c)]]++cellsN dSubEl.scope.names) (subA H p t a) l1 H1) (hx:Ex ⟨g,n,kOf dSubEl hd (H++[AObj.dict [("bend",b),("name",c)]]).length⟩ l1 H1 dSubEl.body ⟨.ret v,l2,H2⟩):Call g (n+1) hd H (.top 122) [p,t,a] [("bend",b),("name",c)] v H2:=fun {x s A fv us ks} z am rf r1 r2 Q E dn =>
  rf.1 ▸ r2.cons_ (P:=fun ks=>wpAny _ _ (PySem.call _ us ks) _ _ _) fun u _ q1 r3=>r3.cons_ (P:=fun ks=>wpAny _ _ (PySem.call _ us (_ :: ks)) _ _ _) fun w _ q2 r4=>r4.nil_ (P:=fun ks=>wpAny _ _ (PySem.call _ us (_ :: _ :: ks)) _ _ _)
    (sub_any (po:=fun D=>[D,D,D,D]) (m:=2) z am r1 (.cons q1 (.cons q2 .nil)) (fun _ _ _ _ _ _ _ _ _ _ _ _=>grow_sub2) (fun D q m=>by simpa using m) (fun _ _ e=>dict_kw e) bs hx dn)
end
section
variable {c:Cx} {g:Gx} {x x₀ y:Wd} {H H1 H2 H3 H4 H':AHeap} {s s₀ t:Shared} {A:Around} {l l1 l2 l3 l':Loc} {env:Env} {E:Post Value} {elt e:Expr} {gens gs:List Comprehension} {scope:Scope} {pos:Pos} {d n acc:Nat} {gc g2:Comprehension} {it it' it2:AIter} {u a:Value} {v:AV} {xs:List AV}
noncomputable def tstOf (env:Env) (c:Expr) (r:Bool):Sem (ForInStep Bool):=if r=true then do
    let ok ←isTrue c env (eval c env)
    pure (ForInStep.yield ok)
  else pure (ForInStep.yield r)
noncomputable abbrev Fl {α:Type}:α→Shared→Prop:=fun _ _=>False
noncomputable def Emit (M:Model) (A:Around) (elt:Expr) (gens:List Comprehension) (scope:Scope) (pos:Pos) (d:Nat) (acc:Value) (env:Env) (R:Shared→Prop) (s:Shared):Prop:=
  match gens[d+1]? with
  | some g'=>(g'.is_async != 0)=false∧(∀ env v,foldedSetIterable g'.iter env v=pure v)∧wpAny M A (eval g'.iter env) (fun v2 s₅=>wpAny M A (pyIter v2) (fun it2 s₆ =>
      codeAny M A (.compStart (.ListComp elt gens scope pos) (d+1) it2 acc env) (fun r s'=>match r with
        | .ok _=>R s'
        | .error _=>False) s₆) Fl s₅) Fl s
  | none=>wpAny M A (eval elt env) (fun v2 s₅=>wpAny M A (call (.builtin "list.append") [acc,v2]) (fun _ s₆=>R s₆) Fl s₅) Fl s
theorem fl {α:Type} {P:α→Shared→Prop}:∀ a s,Fl a s→P a s:=fun _ _ h=>h.elim
theorem comp_turn {T:Result→Shared→Prop} (hg:gens[d]? = some gc) (ha:(gc.is_async != 0)=false)
    (h : wpAny g.M A (pyNext u) (fun r s₁=>match r with
      | none=>T (.ok .next) s₁
      | some v=>wpAny g.M A (letOwnedTupleGo gc.target u v) (fun _ s₂=>wpAny g.M A (assign gc.target env v) (fun _ s₃=>wpAny g.M A (forIn gc.ifs true (tstOf env)) (fun ok s₄ =>
          if ok=true then Emit g.M A elt gens scope pos d a env (fun s'=>codeAny g.M A (.compLoop (.ListComp elt gens scope pos) d u a env) T s') s₄
          else codeAny g.M A (.compLoop (.ListComp elt gens scope pos) d u a env) T s₄) Fl s₃) Fl s₂) Fl s₁) Fl s) :
    codeAny g.M A (.compLoop (.ListComp elt gens scope pos) d u a env) T s:=by
  refine codeAny_of_tree ?_
  show wpAny _ A ((compTurn (.ListComp elt gens scope pos) d u a env).onRaise (fun x=>do noteFrame x env;theTreesLotGoes x)) _ _ s
  refine wpAny_noted ?_
  unfold compTurn
  dsimp -zeta only
  rw [hg]
  refine wpAny_bind (wpAny_standAt ?_)
  refine wpIfNeg (Bool.eq_false_iff.mp ha) (wpAny_bind (wpAny_mono h (fun r s₁ h₁=>?_) fl))
  cases r with
  | none=>exact wpAny_pure h₁
  | some v =>
    refine wpAny_bind (wpAny_mono h₁ (fun _ s₂ h₂=>wpAny_bind (wpAny_mono h₂ (fun _ s₃ h₃=>wpAny_bind (wpAny_mono h₃ (fun ok s₄ h₄=>?_) fl)) fl)) fl)
    cases ok with
    | false=>exact wpAny_pure ⟨rfl,h₄⟩
    | true =>
      unfold Emit at h₄
      cases hg2:gens[d+1]? with
      | none =>
        rw [hg2] at h₄
        exact wpAny_bind (wpAny_bind (wpAny_mono h₄ (fun v2 s₅ h₅=>wpAny_bind (wpAny_mono h₅ (fun _ s₆ h₆=>wpAny_pure (wpAny_pure ⟨rfl,h₆⟩)) fl)) fl))
      | some g' =>
        rw [hg2] at h₄
        have h4:(g'.is_async != 0)=false∧(∀ env v,foldedSetIterable g'.iter env v=pure v)∧_:=h₄
        refine wpAny_bind (wpAny_mono h4.2.2 (fun v2 s₅ h₆=>wpAny_bind (wpAny_standAt ?_)) fl)
        refine wpIfNeg (Bool.eq_false_iff.mp h4.1) (wpAny_bind (wpAny_of_eq (h4.2.1 env v2) (wpAny_bind (wpAny_holding ?_))))
        refine wpIfNeg (Bool.eq_false_iff.mp h4.1) (wpAny_mono h₆ (fun it2 s₆ h₇=>wpAny_bind (wpAny_runOwn (codeAny_mono h₇ fun r s' hr=>?_))) fl)
        cases r with
        | ok f=>exact wpAny_pure ⟨rfl,hr⟩
        | error e=>exact hr.elim
theorem comp_start {T:Result→Shared→Prop} (hg:gens[d]? = some gc) (ha:(gc.is_async != 0)=false)
    (h0:codeAny g.M A (.compLoop (.ListComp elt gens scope pos) d u a env) T s)
    (h:wpAny g.M A (pyIter u) (fun it' s'=>codeAny g.M A (.compLoop (.ListComp elt gens scope pos) d it' a env) T s') Fl s) :
    codeAny g.M A (.compStart (.ListComp elt gens scope pos) d u a env) T s:=by
  refine codeAny_of_tree ?_
  show wpAny _ A ((compStart (.ListComp elt gens scope pos) d u a env).onRaise (fun x=>do noteFrame x env;standAt theWindowsPlace)) _ _ s
  refine wpAny_onRaise (wpAny_mono (E:=Fl) ?_ (fun _ _ q=>q) fl)
  unfold compStart
  have e:clausesOf (.ListComp elt gens scope pos)=gens:=rfl
  rw [e,hg]
  refine wpIfNeg (Bool.eq_false_iff.mp ha) (wpAny_bind (wpAny_askSetting ?_))
  by_cases hq:(Setting.params ⟨g.prog,g.w.params⟩).followText "comprehension-iter-twice" = true
  · exact wpIfPos hq (wpAny_bind (wpAny_pure (wpAny_pure ⟨rfl,h0⟩)))
  · exact wpIfNeg hq (wpAny_bind (wpAny_rule (wpAny_bind (wpAny_standAt (wpAny_bind (wpAny_mono h (fun it' s' h'=>wpAny_pure ⟨rfl,h'⟩) fl))))))
end
section
variable {c:Cx} {g:Gx} {x x₀ y:Wd} {H H1 H2 H3 H4 H':AHeap} {s s₀ t:Shared} {A:Around} {l l1 l2 l3 l':Loc} {env:Env} {E:Post Value} {elt e:Expr} {gens gs:List Comprehension} {scope:Scope} {pos:Pos} {d n acc:Nat} {gc g2:Comprehension} {it it' it2:AIter} {u:Value} {a:Addr} {v:AV} {xs:List AV} {ifs:List Expr} {q:Bool}
noncomputable def Fs (c:Cx) (l:Loc) (H:AHeap) (ifs:List Expr) (q:Bool) (H':AHeap):Prop:=
  ∀ {x s A env},Ready c l H x s A env→∀ {Q E},Ok c.g BRel x s q H' Q→wpAny c.M A (forIn ifs true (tstOf env)) Q E s
theorem fs_nil:Fs c l H [] true H:=fun p _ _ d=>wpAny_pure (d.here p.z rfl)
theorem fs_one (h:Ts c l H e q H1):Fs c l H [e] q H1:=fun {x s A env} p Q E d=>by
  rw [List.forIn_cons]
  exact wpAny_bind (wpAny_bind (h p fun st z r=>wpAny_pure (wpAny_pure (d st z r))))
noncomputable def Ge (c:Cx) (l:Loc) (H:AHeap) (elt:Expr) (gs:List Comprehension) (it:AIter) (acc:Nat) (l':Loc) (H':AHeap):Prop:=
  ∀ {scope pos d gens x₀ s₀ x s A env u I a},gens.drop d=gs→c.k.hd=false→Lp c l H x₀ s₀ x s A env it u I→x.ρ[acc]? = some a→∀ {T:Result→Shared→Prop},(∀ {y t},Step [env.locals] x₀ s₀ y t→x.le y→Ready c l' H' y t A env→T (.ok .next) t) →
    codeAny c.M A (.compLoop (.ListComp elt gens scope pos) d u (.ref a) env) T s
noncomputable abbrev Sync (g:Comprehension):Prop:=(g.is_async != 0)=false
theorem head_of {gr:List Comprehension} (h:gens.drop d=gc :: gr):gens[d]? = some gc∧gens.drop (d+1)=gr:=
  ⟨(Nat.add_zero d ▸ List.getElem?_drop (xs:=gens) (i:=d) (j:=0)).symm.trans (congrArg (·[0]?) h),(List.drop_drop (l:=gens) (i:=1) (j:=d)).symm.trans (congrArg (List.drop 1) h)⟩
theorem ge_end {gr:List Comprehension} (ha:Sync gc) (h:End c H it):Ge c l H elt (gc :: gr) it acc l H:=fun hd hc q _ T k =>
  comp_turn (head_of hd).1 ha (h hc q fun st p=>k st (Wd.le_refl _) p)
theorem ge_turn {gr:List Comprehension} {I:List Addr} {T:Result→Shared→Prop} (ha:Sync gc) (h:Turn c l H gc.target it l1 H1 it') (hf:Fs c l1 H1 gc.ifs q H2) (hg:gens[d]? = some gc) (hc:c.k.hd=false) (lp:Lp c l H x₀ s₀ x s A env it u I)
    (k:∀ {y t},x.le y→Lp c l1 H2 x₀ s₀ y t A env it' u I→if q=true then Emit c.M A elt gens scope pos d (.ref a) env (fun s'=>codeAny c.M A (.compLoop (.ListComp elt gens scope pos) d u (.ref a) env) T s') t else codeAny c.M A (.compLoop (.ListComp elt gens scope pos) d u (.ref a) env) T t) :
    codeAny c.M A (.compLoop (.ListComp elt gens scope pos) d u (.ref a) env) T s:=
  comp_turn hg ha (h hc lp fun kk=>kk fun le q1=>hf q1.p fun s2 z2 r=>r ▸ k (Wd.le_trans le s2.le) (q1.mv s2.weak (q1.p.step s2 z2)))
theorem ge_skip {gr:List Comprehension} (ha:Sync gc) (h:Turn c l H gc.target it l1 H1 it') (hf:Fs c l1 H1 gc.ifs false H2) (hr:Ge c l1 H2 elt (gc :: gr) it' acc l' H'):Ge c l H elt (gc :: gr) it acc l' H':=fun {_ _ _ _ _ _ _ _ _ _ _ _ _} hd hc q hx T k =>
  ge_turn (gr:=gr) ha h hf (head_of hd).1 hc q fun le lp=>(hr hd hc lp (prefix_get le.1 hx) fun st le2 p=>k st (Wd.le_trans le le2) p)
theorem ge_put (ha:Sync gc) (h:Turn c l H gc.target it l1 H1 it') (hf:Fs c l1 H1 gc.ifs true H2) (hv:Ev c l1 H2 elt v H3) (hx:H3[acc]? = some (.list xs)) (hl:xs.length≤1000) (hr:Ge c l1 (H3.set acc (.list (xs++[v]))) elt [gc] it' acc l' H'):Ge c l H elt [gc] it acc l' H':=fun {_ _ _ _ _ _ _ _ _ _ _ _ _} hd hc q hx' T k =>
  ge_turn (gr:=[]) ha h hf (head_of hd).1 hc q fun {y t} le lp=>by
    have e:=(congrArg (·[0]?) (head_of hd).2)
    rw [List.getElem?_drop] at e
    have e:_=none:=e
    show Emit _ _ _ _ _ _ _ _ _ _ _
    unfold Emit
    rw [Nat.add_zero] at e
    rw [e]
    refine hv lp.p fun s2 z2 r2=>?_
    have hx2:=prefix_get (Wd.le_trans le s2.le).1 hx'
    exact m_append z2 hx hl ⟨_,hx2,rfl⟩ r2 fun s3 z3 _=>hr hd hc (lp.mv (s2.trW s3).weak (lp.p.step (s2.trW s3) z3)) (prefix_get s3.le.1 hx2) fun st le2 p=>k st (Wd.le_trans le (Wd.le_trans (s2.trW s3).le le2)) p
noncomputable def compIt:AIter→Bool
  | .list ..=>true | .tup ..=>true | .range ..=>true | _=>false
theorem twice_wp {I:List Addr} {Q:Post Value} (r:Itr x s.heap it u I) (hc:compIt it=true) (h:Q u s):wpAny g.M A (pyIter u) Q E s:=by
  cases it with
  | list i k=>exact r.elim fun it r=>r.elim fun a r=>r.1 ▸ up (PySem.wpAny_pyIter_listiter r.2.2.2 (r.1 ▸ h))
  | tup i k=>exact r.elim fun it r=>r.elim fun a r=>r.1 ▸ up (PySem.wpAny_pyIter_tupleiter r.2.2.2 (r.1 ▸ h))
  | range cur st m=>exact Exists.elim r fun it r=>r.1 ▸ up (PySem.wpAny_pyIter_rangeiter r.2.2 (r.1 ▸ h))
  | bytes xs=>cases hc
  | enum k i=>cases hc
theorem ge_sub {gr:List Comprehension} (ha:Sync gc) (h:Turn c l H gc.target it l1 H1 it') (hf:Fs c l1 H1 gc.ifs true H2) (ha2:Sync g2) (hs:∀ env v,foldedSetIterable g2.iter env v=pure v) (hi:It c l1 H2 g2.iter it2 H3) (hc2:compIt it2=true)
    (h2:Ge c l1 H3 elt (g2 :: gr) it2 acc l2 H4) (hr:Ge c l2 H4 elt (gc :: g2 :: gr) it' acc l' H'):Ge c l H elt (gc :: g2 :: gr) it acc l' H':=fun {scope pos d gens x₀ s₀ x s A env u I a} hd hc q hx' T k =>
  ge_turn (gr:=g2 :: gr) ha h hf (head_of hd).1 hc q fun {y t} le lp=>by
    have hd2:=(head_of hd).2
    show Emit _ _ _ _ _ _ _ _ _ _ _
    unfold Emit
    rw [(head_of hd2).1]
    refine ⟨ha2,hs,hi lp.p fun {y3 t3 u3 I3} s3 z3 ir inn=>?_⟩
    have hx2:=prefix_get (Wd.le_trans le s3.le).1 hx'
    have loop:codeAny c.M A (.compLoop (.ListComp elt gens scope pos) (d+1) u3 (.ref a) env) (fun r s'=>match r with
        | .ok _=>codeAny c.M A (.compLoop (.ListComp elt gens scope pos) d u (.ref a) env) T s'
        | .error _=>False) t3:=h2 hd2 hc ⟨lp.p.step s3 z3,s3.weak,ir,inn⟩ hx2 fun s4 le4 p4=>hr hd hc (lp.mv s4 p4) (prefix_get le4.1 hx2) fun st le5 p=>k st (Wd.le_trans le (Wd.le_trans s3.le (Wd.le_trans le4 le5))) p
    exact comp_start (head_of hd2).1 ha2 loop (twice_wp ir hc2 loop)
theorem ge_sub_loc {gr:List Comprehension} (hl:∀ nm v,l1.lookup nm=some v→l.lookup nm=some v) (h:Ge c l1 H elt gs it acc l' H'):Ge c l H elt gs it acc l' H':=fun hd hc q hx T k=>h hd hc ⟨q.p.sub hl,q.st,q.r,q.new⟩ hx k
end
section
variable {M:Model} {A:Around} {E:Post Value} {s:Shared} {env:Env}
noncomputable def After (M:Model) (A:Around) (E:Post Value) (use:Option (Value→Sem Unit)) (Q:Post Value) (acc:Value) (C:Addr) (s':Shared):Prop:=
  match use with
  | none=>∃ m,s'.heap.Ns C m∧∀ h' m',h'.Ns C m'→Heap.SameBut C s'.heap h'→Q acc { s' with heap:=h' }
  | some u=>wpAny M A (u acc) (fun _ s''=>∃ m,s''.heap.Ns C m∧∀ h' m',h'.Ns C m'→Heap.SameBut C s''.heap h'→Q .none { s'' with heap:=h' }) E s'
noncomputable def AfterR (R:Shared→Prop) (r:Result) (s':Shared):Prop:=match r with
  | .ok _=>R s'
  | .error _=>False
theorem wpIfBoth {α:Type} {c:Prop} [Decidable c] {a b:Sem α} {Q:Post α} (h:wpAny M A b Q E s→wpAny M A a Q E s) (hb:wpAny M A b Q E s):wpAny M A (if c then a else b) Q E s:=if hc:c then wpIfPos hc (h hb) else wpIfNeg hc hb
theorem comp_wp {e:Expr} {scope:Scope} {pos:Pos} {newAcc first:Sem Value} {g:Comprehension} {gs:List Comprehension} {cl:List (Str × Addr)} {use:Option (Value→Sem Unit)} {Q:Post Value}
    (hcl:clausesOf e=g :: gs) (hs:∀ env v,foldedSetIterable g.iter env v=pure v) (hclos:closureFor scope env=pure cl) (hkind:scope.kind = .function) (hnames:∀ x∈scope.names,x.2 = .local→scope.names.lookup x.1=some .local)
    (h : wpAny M A first (fun x s₁=>wpAny M A (pyIter x) (fun it s₂=>wpAny M A newAcc (fun acc s₃ =>
      wpAny M A (newFunctionEnv scope env.globals cl [] env.qual none .none (some env)) (fun cenv s₄ =>
        codeAny M A (.compStart e 0 it acc { cenv with scope:=relabel scope env }) (AfterR (After M A E use Q acc cenv.locals)) s₄) E s₃) E s₂) E s₁) E s) :
    wpAny M A (comprehension e scope env pos newAcc false first use) Q E s:=by
  unfold comprehension
  rw [hclos,hcl]
  refine wpAny_bind (wpAny_mono h (fun x s₁ h₁=>wpAny_bind (wpAny_standAt (wpAny_bind (wpAny_of_eq (hs env x) (wpAny_bind (wpAny_holding (wpAny_mono h₁ (fun it s₂ h₂=>?_) fun _ _ h'=>h'))))))) fun _ _ h'=>h')
  refine wpIfBoth (fun k=>wpAny_bind (wpAny_standAt k)) (wpAny_bind (wpAny_mono h₂ (fun acc s₃ h₃=>wpAny_bind (wpAny_pure (wpAny_bind (wpAny_mono h₃ (fun cenv s₄ h₄=>?_) fun _ _ h'=>h')))) fun _ _ h'=>h'))
  have hv:∀ x∈(scope.names.filter fun x=>(x.2 == .local || x.2 == .cell) && x.1 != (".0" : Str)).reverse,x.2 = .local →
      Env.kindOf { cenv with scope:=relabel scope env } x.1=some .local:=fun x hx hl=>lookup_relabel_local (hnames x (List.mem_filter.mp (List.mem_reverse.mp hx)).1 hl)
  refine wpAny_holding (wpAny_bind (wpAny_attempt (wpAny_holding (wpAny_run (codeAny_mono h₄ fun r s' hr=>?_)))))
  cases r with
  | ok f =>
    cases use with
    | none=>exact hr.elim fun m hr=>wpAny_bind (wpAny_holding (up (PySem.wpAny_comp_letGo (cenv:={ cenv with scope:=relabel scope env }) hkind _ s' m hv hr.1 fun h' m' hn' hs'=>wpAny_pure (hr.2 h' m' hn' hs'))))
    | some u=>exact wpAny_bind (wpAny_rule (wpAny_bind (wpAny_holding (wpAny_mono hr (fun _ s'' hr'=>hr'.elim fun m hr' =>
        wpAny_bind (up (PySem.wpAny_comp_letGo (cenv:={ cenv with scope:=relabel scope env }) hkind _ s'' m (fun x hx hl=>(List.mem_append.mp hx).elim (fun h1=>hv x (List.mem_of_mem_drop h1) hl) fun h1=>hv x (List.mem_of_mem_take h1) hl) hr'.1 fun h' m' hn' hs'=>wpAny_pure (hr'.2 h' m' hn' hs')))) fun _ _ h'=>h'))))
  | error x=>exact hr.elim
end
section
variable {c:Cx} {g:Gx} {x x₀ y:Wd} {H H1 H2 H3 H4 H':AHeap} {s s₀ t:Shared} {A:Around} {l l1 l2 l3 l':Loc} {env:Env} {E:Post Value} {elt e tg:Expr} {gens gs gr:List Comprehension} {scope:Scope} {pos:Pos} {d n acc:Nat} {gc g2:Comprehension} {it it' it2:AIter} {u:Value} {a:Addr} {v:AV} {xs:List AV} {ifs:List Expr} {q:Bool} {cl:List (Str × Nat)} {k:K}
noncomputable def relA (k:K) (scope:Scope):Scope:={ scope with names:=scope.names.map fun p=>if (p.2 == .free && k.scope.names.lookup p.1 == some .cell) then (p.1,.cell) else p }
noncomputable def kC (k:K) (scope:Scope) (cl:List (Str × Nat)):K:=⟨relA k scope,k.qual,cl,k.hd,false⟩
theorem rel_eq (r:EnvB x s.heap k l env) (scope:Scope):relabel scope env=relA k scope:=by
  unfold relabel relA Env.kindOf
  rw [r.scope,r.kind]
  refine congrArg (fun n=>({ scope with names:=n }:Scope)) (List.map_congr_left fun p _=>?_)
  show (if (p.2 == NameKind.free && true && _)=true then _ else _)=_
  rw [Bool.and_true]
structure CompOk (scope:Scope):Prop where
  nc:scope.names.all (fun x=>x.2 != .cell)=true
  kf:scope.kind = .function
  lo:scope.names.all (fun x=>x.2 != .local || scope.names.lookup x.1 == some .local)=true
theorem CompOk.nc' (h:CompOk scope):∀ x∈scope.names,x.2 ≠ .cell:=fun x m q=>by
  have:=List.all_eq_true.mp h.nc x m
  rw [q] at this;exact absurd this (by decide)
theorem CompOk.lo' (h:CompOk scope):∀ x∈scope.names,x.2 = .local→scope.names.lookup x.1=some .local:=fun x m q=>by
  have:=List.all_eq_true.mp h.lo x m
  rw [q] at this;exact eq_of_beq this
inductive Lc (c:Cx) (l:Loc) (H:AHeap) (elt:Expr) (gens:List Comprehension) (scope:Scope) (n:Nat) (H':AHeap):Prop
  | mk {gc:Comprehension} {gr:List Comprehension} {cl:List (Str × Nat)} {it:AIter} {l':Loc} {H1:AHeap}:gens=gc :: gr→CompOk scope→Sync gc→(∀ env v,foldedSetIterable gc.iter env v=pure v)→c.k.hd=false→closA scope.names c.k.cells []=some cl→It c l H gc.iter it H1→compIt it=true→n=H1.length→Ge ⟨c.g,c.n,kC c.k scope cl⟩ [] (H1++[.list []]) elt gens it H1.length l' H'→Lc c l H elt gens scope n H'
theorem frame_off (z:Rl g x H s) {C:Addr} (lo:179≤C) (no:¬ x.own C) {m:Str→Option Value} (hm:s.heap.Ns C m) {h':Heap} {m':Str→Option Value} (hm':h'.Ns C m') (sb:Heap.SameBut C s.heap h'):Rl g x H { s with heap:=h' }∧Step [C] x s x { s with heap:=h' }:=
  z.side (tk:=s.toks) (XOk.one lo (Ns.dict hm)) (fun _ q=>List.mem_singleton.mp q ▸ ⟨no,(Ns.dict hm).elim fun _ q=>notExcD q.1 q.2⟩) (fun b o hb e=>(sb.2 b fun q=>hb (List.mem_singleton.mpr q)).trans e) (Live.but (fun b o hb e=>(sb.2 b hb).trans e) ((Ns.dict hm').imp fun _ q=>q.1))
theorem comp_run {scope:Scope} {clE:List (Str × Addr)} {I:List Addr} {h':Heap} {T:Result→Shared→Prop} (ok:CompOk scope) (ha:Sync gc) (hci:compIt it=true) (hcr:CRs x₀.ρ cl clE) (hc:c.k.hd=false)
    (hg:Ge ⟨c.g,c.n,kC c.k scope cl⟩ [] H elt (gc :: gr) it acc l' H') (lp:Lp c l H x₀ s₀ x s A env it u I) (st:Step [] x₀ s₀ x s) (aL:x.ρ[acc]? = some a) (hns:h'.Ns s.heap.objs.size (fun _=>none)) (hsb:Heap.SameBut s.heap.objs.size (s.heap.push { cls:=.type "dict",data:=.dict #[] }) h')
    (k:∀ {y t m},Step [] x₀ s₀ y t→Rl c.g y H' t→y.ρ[acc]? = some a→s₀.heap.get? s.heap.objs.size=none→179≤s.heap.objs.size→¬ y.own s.heap.objs.size→t.heap.Ns s.heap.objs.size m→T (.ok .next) t) :
    codeAny c.M A (.compStart (.ListComp elt (gc :: gr) scope pos) 0 u (.ref a) (compEnvC scope clE s.heap.objs.size env)) T { s with heap:=h' }:=by
  have p:=lp.p
  have k3:∀ b o,s.heap.get? b=some o→h'.get? b=some o:=fun b o e=>(hsb.2 b (Nat.ne_of_lt (Heap.lt_size e))).trans (Heap.get?_push_of_some _ e)
  have zz:=p.z.stay (h':=h') (tk:=s.toks) k3
  have C3:s.heap.get? s.heap.objs.size=none:=Heap.get?_none_of_le (Nat.le_refl _)
  have C0:=st.size.none C3
  have p3:=p.step zz.2 zz.1
  have pc:Ready ⟨c.g,c.n,kC c.k scope cl⟩ [] H x { s with heap:=h' } A (compEnvC scope clE s.heap.objs.size env):=
    ⟨zz.1,⟨⟨rel_eq p.r.b scope,ok.kf,p.r.b.qual,p.r.b.glob,p.r.b.blt,hcr.mono st.le.1,⟨_,hns,fun _ _ e=>nomatch e⟩,p.z.fresh C3,p.z.big⟩,p3.r.fr,fun e=>nomatch e⟩,p3.a⟩
  have lc:Lp ⟨c.g,c.n,kC c.k scope cl⟩ [] H x₀ s₀ x { s with heap:=h' } A (compEnvC scope clE s.heap.objs.size env) it u I:=⟨pc,(st.trW zz.2).weak,(lp.mv zz.2.weak p3).r,(lp.mv zz.2.weak p3).new⟩
  have loop:codeAny c.M A (.compLoop (.ListComp elt (gc :: gr) scope pos) 0 u (.ref a) (compEnvC scope clE s.heap.objs.size env)) T { s with heap:=h' }:=
    hg rfl hc lc aL fun s4 le p4=>p4.r.b.ns.elim fun m hm=>k (Step.trans (Step.refl _ _ _) s4 fun l hl=>.inr (List.mem_singleton.mp hl ▸ C0)) p4.z (prefix_get le.1 aL) C0 p.z.big p4.r.b.lown hm.1
  exact comp_start rfl ha loop (twice_wp lc.r hci loop)
theorem comp_core {use:Option (Value→Sem Unit)} {Q:Post Value} (h:Lc c l H elt gens scope n H') (p:Ready c l H x s A env)
    (k:∀ {y t u C m},Step [] x s y t→Rl c.g y H' t→VR y (.ob n) u→s.heap.get? C=none→179≤C→¬ y.own C→t.heap.Ns C m→After c.M A E use Q u C t) :
    wpAny c.M A (comprehension (.ListComp elt gens scope pos) scope env (firstIterPos gens pos) (newList []) (firstAsync gens) (firstIter gens env) use) Q E s:=by
  refine h.rec fun {gc gr cl it l' H1} h0 ok ha hs hc hcl hi hci hn hg=>?_
  subst h0
  subst hn
  refine (closure_ok p.r.b.cells hcl).elim fun clE hcl2=>?_
  rw [show firstAsync (gc :: gr)=false from by cases gc;exact ha,show firstIter (gc :: gr) env=eval gc.iter env from by cases gc;rfl]
  refine comp_wp rfl hs hcl2.1 ok.kf ok.lo' (hi p fun {y t v1 I} s1 z1 ir inn=>?_)
  refine wpAny_newObj_type (dict:=none) ?_ (Nat.zero_le _)
  have q:=z1.new (ob:={ cls:=.type "list",data:=.seq ([]:List Value).toArray }) (o:=.list []) rfl (fun e=>⟨[],0,e,.nil⟩) t.toks
  have p1:=p.step s1 z1
  have lp:Lp c l (H1++[.list []]) x s (y.add t.heap.objs.size) { t with heap:=t.heap.push { cls:=.type "list",data:=.seq ([]:List Value).toArray },toks:=t.toks } A env it v1 I:=Lp.mv ⟨p1,s1.weak,ir,inn⟩ q.2.weak (p1.step q.2 q.1)
  have aL:(y.add t.heap.objs.size).ρ[H1.length]? = some t.heap.objs.size:=z1.get _
  have s2:=s1.trW q.2
  refine up (PySem.wpAny_newFunctionEnv ok.nc' (fun _ m=>nomatch m) (fun h' hns hsb=>?_) ok.kf)
  exact comp_run ok ha hci hcl2.2 hc hg lp s2 aL hns hsb fun st z hy hC lo no hm=>k st z ⟨_,hy,rfl⟩ hC lo no hm
theorem ev_comp (h:Lc c l H elt gens scope n H'):Ev c l H (.ListComp elt gens scope pos) (.ob n) H':=fun {x s A env} p Q E d=>by
  rw [eval_ListComp]
  exact comp_core h p fun st z r hC lo no hm=>⟨_,hm,fun h' m' hm' sb=>have zz:=frame_off z lo no hm hm' sb
    d (st.trans zz.2 fun l hl=>.inr (List.mem_singleton.mp hl ▸ hC)) zz.1 (r.mono zz.2.le)⟩
theorem EnvR.off (r:EnvR x s.heap A k l env) {C:Addr} {h':Heap} (hC:env.locals≠C) (dC:DictAt s.heap C) (kk:∀ b o,b≠C→s.heap.get? b=some o→h'.get? b=some o):EnvR x h' A k l env:=
  ⟨⟨r.b.scope,r.b.kind,r.b.qual,r.b.glob,r.b.blt,r.b.cells,r.b.ns.imp fun m n=>⟨n.1.imp fun o w=>w.imp fun es w=>w.imp fun ep w=>⟨kk _ o hC w.1,w.2⟩,n.2⟩,r.b.lown,r.b.llow⟩,r.fr,fun q=>(r.code q).imp fun cc w=>w.imp fun P w=>⟨w.1,codeHd_own w.2.1 (fun o e=>kk _ o (fun q=>by
    subst q
    exact (codeHd_fields w.2.1).elim fun ob e1=>dC.elim fun o' e'=>e'.2.elim fun es e'=>e'.elim fun n hd=>by
      have e2:=Option.some.inj (e1.1.symm.trans (dC.elim fun _ w=>e1.1))
      exact e1.2.2.elim fun vs hv=>dC.elim fun o2 w2=>w2.2.elim fun es2 w3=>w3.elim fun n2 hd2=>nomatch (hv.symm.trans (congrArg Obj.data (Option.some.inj (e1.1.symm.trans w2.1)))).trans hd2) e),w.2.2⟩⟩
theorem use_eq {f:Value→Sem Unit}:evalThenUse (.ListComp elt gens scope pos) env f=(comprehension (.ListComp elt gens scope pos) scope env (firstIterPos gens pos) (newList []) (firstAsync gens) (firstIter gens env) (some f) >>= fun _=>pure ()):=by kernel_rfl
theorem st_assignC (h0:swapsWithSole [tg] (.ListComp elt gens scope pos) pos'.line (envS c.k.scope)=pure true) (ho:One tg) (h:Lc c l H elt gens scope n H1) (h3:As c l H1 tg (.ob n) l1 H2):St c l H (.Assign [tg] (.ListComp elt gens scope pos) pos') ⟨.next,l1,H2⟩:=fun {x s A env} p Q E d=>by
  rw [arm_exec_Assign,sole_env _ _ _ p.r.b,h0]
  refine wpAny_bind (wpAny_standAt (wpAny_bind (wpAny_pure (wpIfPos rfl ?_))))
  rw [use_eq]
  refine wpAny_bind ?_
  refine wpAny_bind (comp_core (Q:=fun _ s'=>wpAny c.M A (pure ()) (fun _ s'=>wpAny c.M A (pure Flow.next) Q E s') E s') h p fun {y t u C m} st z r hC lo no hm=>?_)
  show wpAny _ _ (assignAll u ((assignEach [tg] env).map (·.2))) _ _ _
  have neC:env.locals≠C:=fun q=>p.r.b.ns.dict.elim fun o w=>absurd (hC.symm.trans (show s.heap.get? C=some o from q ▸ w.1)) nofun
  rw [ho]
  refine h3 (p.step st z) r fun {y2 t2} s2 p2=>?_
  have no2:¬ y2.own C:=(Ns.dict hm).elim fun o w=>s2.old w.1 no
  have hm2:=ns_step s2 (fun q=>neC (List.mem_singleton.mp q).symm) no hm
  refine ⟨m,hm2,fun h' m' hm' sb=>wpAny_pure (wpAny_pure ?_)⟩
  have zz:=frame_off p2.z lo no2 hm2 hm' sb
  exact d ((st.trW s2).trans zz.2 fun l hl=>.inr (List.mem_singleton.mp hl ▸ hC)) ⟨zz.1,p2.r.off neC (Ns.dict hm2) fun b o hb e=>(sb.2 b hb).trans e,p2.a.step zz.2 fun L m=>List.mem_singleton.mp m ▸ Ns.dict hm'⟩
end
section
variable {prog:Program} {w:World} {s:Shared} {A:Around} {E:Value→Shared→Prop}
theorem wpAny_isSame_int {p q:Int} {t u:Tok} {Q:Bool→Shared→Prop} (hc:s.heap.Ns cStatics fun _=>none) (ht:t≠0) (hu:u≠0) (htu:t=u→p=q) (h:∀ b,(b=true→p=q)→Q b s):wpAny (model prog w) A (isSame (.int p t) (.int q u)) Q E s:=by
  have hz:(t == 0 || u == 0)=false:=by simp [ht,hu]
  show wpAny _ _ (if (p == q && smallInt p)=true then isSame.cachedInt t u else isSame.created (p == q) t u) _ _ _
  split
  · rename_i he
    unfold isSame.cachedInt
    rw [hz,if_neg (by decide)]
    simp only [Bool.and_eq_true,beq_iff_eq] at he
    exact wpAny_bind (wpAny_rule (wpAny_pure (h true fun _=>he.1)))
  · unfold isSame.created
    rw [hz,if_neg (by decide)]
    split
    · rename_i h1
      exact wpAny_pure (h true fun _=>htu (eq_of_beq h1))
    · split
      · rename_i h2
        exact wpAny_pure (h false fun x=>nomatch x)
      · rename_i h2
        have hpq:p=q:=by simpa using h2
        have nt:∀ (t:Tok) (Q:Bool→Shared→Prop),Q false s→wpAny (model prog w) A (sharingNotTold t) Q E s:=fun t Q hq=>by
          unfold sharingNotTold
          exact wpAny_bind (wpAny_nsGet hc (wpAny_pure hq))
        refine wpAny_bind (nt _ _ ?_)
        rw [if_neg (by decide)]
        refine wpAny_bind (nt _ _ ?_)
        rw [if_neg (by decide)]
        exact wpAny_bind (wpAny_rule (wpAny_bind (wpAny_askSetting (wpAny_pure (h _ fun _=>hpq)))))
end
section
variable {c:Cx} {g:Gx} {x:Wd} {H:AHeap} {l:Loc} {a b:AV} {r:Bool} {nk nl:Str} {p1 p2 p3 p4 p5 p6:Pos} {i j:Nat} {xs ys:List AV}
structure SameQ (g:Gx) (H:AHeap) (a b:AV) (r:Bool):Prop where
  is:∀ {x s A u v},Rl g x H s→VR x a u→VR x b v→∀ {Q:Post Bool} {E},(∀ q,(q=true→r=true)→Q q s)→wpAny g.M A (isSame u v) Q E s
  eq:Cmp g .Eq a b H r
theorem same_int {m k:Int}:SameQ g H (.int m) (.int k) (m == k):=
  ⟨fun z h1 h2 _ _ d=>h1.elim fun t q=>h2.elim fun t' q'=>by
    rw [q.2,q'.2]
    exact wpAny_isSame_int z.tp.lim (z.tok _ q.1).1 (z.tok _ q'.1).1 (fun e=>z.tfun t _ _ q.1 (e ▸ q'.1)) fun w hw=>d w fun e=>beq_iff_eq.mpr (hw e),c_eq_int⟩
theorem same_ob (h1:H[i]? = some (.list xs)) (h2:H[j]? = some (.list ys)) (hr:i=j→r=true) (he:Cmp g .Eq (.ob i) (.ob j) H r):SameQ g H (.ob i) (.ob j) r:=
  ⟨fun z r1 r2 _ _ d=>r1.elim fun a q=>r2.elim fun b q'=>by
    rw [q.2,q'.2]
    exact (z.obj _ _ a h1 q.1).elim fun vs o=>o.elim fun n o=>(z.obj _ _ b h2 q'.1).elim fun us o'=>o'.elim fun m o'=>if e:a=b then e ▸ wpAny_isSame_ref_self (d true fun _=>hr (rho_inj z q.1 (e ▸ q'.1)))
      else wpAny_isSame_ref_other e o.1 o'.1 (ne_code (T:="list") (by decide)) (d false nofun),he⟩
theorem al_same (h1:locQ c.k nk=true) (e1:l.lookup nk=some a) (h2:locQ c.k nl=true) (e2:l.lookup nl=some b) (h:SameQ c.g H a b r) :
    Al c l H .Or [.Compare (.Name nk p1) [.Is] [.Name nl p2] p3,.Compare (.Name nk p4) [.Eq] [.Name nl p5] p6] r H:=fun {x s A env} p Q E d=>by
  rw [arm_allTrue_cons]
  refine wpAny_bind (wpAny_isTrue_Compare1 (loc_wp h1 e1 p.r.b fun {v} hv=>loc_wp h2 e2 p.r.b fun {u} hu=>?_))
  refine wpAny_bind (m:=isSame v u) (h.is p.z hv hu fun q hq=>wpAny_pure (wpAny_truthy_bool ?_))
  cases q with
  | true=>exact wpAny_pure (d.here p.z (hq rfl))
  | false =>
    show wpAny _ _ (allTrue .Or [.Compare (.Name nk p4) [.Eq] [.Name nl p5] p6] env) _ _ _
    rw [arm_allTrue_cons]
    refine wpAny_bind (wpAny_isTrue_Compare1 (loc_wp h1 e1 p.r.b fun {v} hv=>loc_wp h2 e2 p.r.b fun {u} hu=>?_))
    refine h.eq p.z p.a.room hv hu (wpAny_truthy_bool ?_)
    cases r with
    | true=>exact wpAny_pure (d.here p.z rfl)
    | false=>exact wpAny_pure (d.here p.z rfl)
end
section
variable {c:Cx} {H H1:AHeap} {l l1:Loc} {e:Expr} {b:List Stmt} {q:Bool}
theorem wh_stop (hl:∀ nm v,l1.lookup nm=some v→l.lookup nm=some v) (h:Ts c l H e q H1) (hq:q=false):Wh c l H e b l1 H1:=fun p T d=>whl_turn (h p fun s1 z1 r1=>by
  subst hq
  exact r1 ▸ d s1.weak ((p.step s1 z1).sub hl))
end
section
variable {g:Gx} {x:Wd} {H:AHeap} {s:Shared} {d:FD}
theorem bd_5 {a b c e f:AV} {n1 n2 n3 n4 n5:Str} (hm:d∈defTab) (h1:dflD d=false) (h2:d.addr≠122) (h:∀ doc pm an cd ct u v w p q,bindArgs (dfn d doc pm an cd ct) ⟨[u,v,w,p,q],[]⟩=pure [(n1,u),(n2,v),(n3,w),(n4,p),(n5,q)]):Bd g d [a,b,c,e,f] [] [(n1,a),(n2,b),(n3,c),(n4,e),(n5,f)]:=fun {x _ s _ _} z r1 r2 =>
  r2.nil_ (P:=fun ks=>Bound d x s _ _ ks) (r1.cons_ (P:=fun us=>Bound d x s _ (us) _) fun u us q1 r1=>r1.cons_ (P:=fun us=>Bound d x s _ (u :: us) _) fun v us q2 r1=>r1.cons_ (P:=fun us=>Bound d x s _ (u :: v :: us) _) fun w us q3 r1=>r1.cons_ (P:=fun us=>Bound d x s _ (u :: v :: w :: us) _) fun p us q4 r1=>r1.cons_ (P:=fun us=>Bound d x s _ (u :: v :: w :: p :: us) _) fun q us q5 r1=>r1.nil_ (P:=fun us=>Bound d x s _ (u :: v :: w :: p :: q :: us) _)
   ⟨_,.cons q1 (.cons q2 (.cons q3 (.cons q4 (.cons q5 .nil)))),bd_of hm h1 h2 z fun doc pm an cd ct=>h doc pm an cd ct u v w p q⟩)
end
theorem evx_idx {c:Cx} {l:Loc} {H H1 H2:AHeap} {e1 e2:Expr} {pos:Pos} {v1:AV} {i:Nat} (h1:Ev c l H e1 v1 H1) (h2:EvX c l H1 e2 i H2):EvX c l H (.Subscript e1 e2 pos) i H2:=fun p _ _ d=>by
  rw [arm_eval_Subscript]
  exact wpAny_bind (h1 p fun s1 z1 r1=>wpAny_bind (wpAny_holding (h2 (p.step s1 z1) fun s z=>d (s1.trW s) z)))
noncomputable abbrev prg:Program:=(OpenLaw.row PySem.Challenge.rw_wy0026_01).toRowW.prog
noncomputable abbrev topRunQ:=PySem.W.Fast.tw14082659384304107361
noncomputable abbrev treeQ:=PySem.W.Fast.tw14364793385576792824
noncomputable def st0 (P:Params) (os:OsState):Shared:={ heap:=boot_heap P,gens:=#[],drawn:=boot_drawn,toks:=boot_toks,os:=os }
noncomputable def H1 (P:Params):Heap:=match topRunQ treeQ prg ⟨fun _ _=>0,P⟩ 11 (some (.ref 6)) 824 (st0 P default) (topStub prg) with | some s=>s.heap | none=>default
theorem run1 (w:World) (os:OsState):topRunQ treeQ prg w 11 (some (.ref 6)) 824 (st0 w.params os) (topStub prg)=some { heap:=H1 w.params,gens:=#[],drawn:=⟨0,0,0,0⟩,toks:=421,os:=os }:=by kernel_rfl
noncomputable abbrev rwr:OpenRow:=OpenLaw.row PySem.Challenge.rw_wy0026_01
noncomputable def vw:Program:=view prg [28]
noncomputable def lse:List Str:=["insort_right","bisect_right","insort_left","bisect_left","add","mul","neg","sub","concat","countOf","indexOf","_byteswap","iselement","SubElement","_law_thing","_law_sides","_law_like","_law_bush","_law_read","_law_pairs","_law_barred","_law_cut","_law_cells"]
noncomputable def fin (h:Heap) (os:OsState):Shared:={ heap:=h,gens:=#[],drawn:=⟨0,0,0,0⟩,toks:=421,os:=os }
theorem fin_look (h:Heap) (os:OsState):((fin h os).heap,(fin h os).toks)=(h,421):=rfl
noncomputable def xt (s:Shared):Bool:=recOk (RowW.records rwr.toRowW) s
theorem left12 (w:World) (os:OsState):((staticsOk (importedModules prg.main.body) (boot_heap w.params) (H1 w.params) && namesBound prg (H1 w.params) && gensDone (fin (H1 w.params) os) && laidKept (boot_heap w.params) (H1 w.params)),PySem.W.Fast.tw4187177175401517315 vw lse (importedModules prg.main.body) xt true (fin (H1 w.params) os))=(true,openGood vw lse):=by kernel_rfl
theorem left1 (w:World) (os:OsState):(staticsOk (importedModules prg.main.body) (boot_heap w.params) (H1 w.params) && namesBound prg (H1 w.params) && gensDone (fin (H1 w.params) os) && laidKept (boot_heap w.params) (H1 w.params))=true:=(Prod.mk.inj (left12 w os)).1
theorem left2 (w:World) (os:OsState):PySem.W.Fast.tw4187177175401517315 vw lse (importedModules prg.main.body) xt true (fin (H1 w.params) os)=openGood vw lse:=(Prod.mk.inj (left12 w os)).2
theorem boot0:∀ w:World,(fencedOpening treeTable prg w 1000).map (fun s=>(s.heap,s.gens,s.drawn,s.toks))=some (boot_heap w.params,Array.mk [],boot_drawn,boot_toks):=
  boot_open (by kernel_rfl) (by decide) fun s=>by kernel_rfl
theorem size0 (w:World):((boot_heap w.params).isNs mainGlobals && (#[]:Array GenState).size == 0,(boot_heap w.params).objs.size,(boot_heap w.params).nsMap mainGlobals (Str.ofString "__annotations__"))=(true,11,some (.ref 6)):=by kernel_rfl
theorem run0 (w:World) (os:OsState):topRun treeTable prg w 11 (some (.ref 6)) 824 { heap:=boot_heap w.params,gens:=#[],drawn:=boot_drawn,toks:=boot_toks,os:=os } (topStub prg)=some (fin (H1 w.params) os):=by
  rw [PySem.W.Fast.te14082659384304107361,PySem.W.Fast.te14364793385576792824]
  exact run1 w os
theorem looks (w:World):(fun os=>(staticsOk (importedModules prg.main.body) (boot_heap w.params) (H1 w.params) && namesBound prg (H1 w.params) && gensDone (fin (H1 w.params) os) && laidKept (boot_heap w.params) (H1 w.params),
    openSeen vw lse (importedModules prg.main.body) xt true (fin (H1 w.params) os),(fin (H1 w.params) os).heap,(fin (H1 w.params) os).toks))=fun _=>(true,openGood vw lse,H1 w.params,421):=by
  funext os
  rw [left1,PySem.W.Fast.te4187177175401517315,left2,fin_look]
theorem left:LeftO prg vw lse xt (fun s=>(s.heap,s.toks)) (fun w=>(H1 w.params,421)) 1000:=
  LeftO.of_pieces (H₀:=boot_heap) (H₁:=H1) (gs₀:=#[]) (gs₁:=#[]) (d₀:=boot_drawn) (d₁:=⟨0,0,0,0⟩) (k₀:=boot_toks) (k₁:=421) (m₀:=11) (ann:=some (.ref 6)) (M:=824) boot0 size0 run0 (by decide) looks
noncomputable def calm (p:Nat × Obj):Bool:=Nat.blt p.1 179 && (match p.2.cls with
  | .type t=>!(t == "traceback")
  | .none=>(match p.2.data with | .fields _=>false | _=>true)
  | _ => true)
noncomputable def topOf (h:Heap):Frag:=(List.range 179).filterMap fun a=>(h.get? a).bind fun o=>if calm (a,o)=true then some (a,o) else none
noncomputable def top (P:Params):Frag:=topOf (H1 P)
theorem top_sub {h:Heap} {p:Nat × Obj} (m:p∈topOf h):h.get? p.1=some p.2∧calm p=true:=
  (List.mem_filterMap.mp m).elim fun a w=>(Option.bind_eq_some_iff.mp w.2).elim fun o q=>by
    by_cases hc:calm (a,o)=true
    · have e:=Option.some.inj ((if_pos hc).symm.trans q.2)
      rw [←e];exact ⟨q.1,hc⟩
    · exact nomatch (if_neg hc).symm.trans q.2
noncomputable def κ0:List (Addr × Str):=[(124,dThing.name ++ ".<locals>."),(131,dSides.name ++ ".<locals>."),(138,dLike.name ++ ".<locals>."),(143,dBush.name ++ ".<locals>.")]
noncomputable def τ0:List (Nat × Int):=[(189,0),(202,0),(216,0),(229,0)]
noncomputable def lD:List (FD × Nat × Nat):=[(dIr,189,124),(dBr,202,131),(dIl,216,138),(dBl,229,143)]
noncomputable def kob (K:Frag) (a:Nat):Obj:=(K.lookup a).getD { cls:=.none,data:=.plain }
noncomputable def kfd (K:Frag) (a:Nat):FuncData:=match (kob K a).data with | .func f=>f | _=>default
noncomputable def kes (K:Frag) (a:Nat):Array DictEntry:=match (kob K a).data with | .dict es _=>es | _=>#[]
noncomputable def kn (K:Frag) (a:Nat):Nat:=match (kob K a).data with | .dict _ n=>n | _=>0
noncomputable def dVof (d:FD):Value:=if dflD d=true then .ref (d.addr - 8) else if d.addr=122 then .ref 115 else .none
noncomputable def kVof (d:FD):Value:=if dflD d=true then .ref (d.addr - 7) else .none
noncomputable def exFn (K:Frag) (d:FD):Obj:=
  { cls:=.type "function",dict:=(kob K d.addr).dict,data:=.func (fnOf d.name d.name d.params d.body d.scope (dVof d) (kVof d) (kfd K d.addr).doc (kfd K d.addr).pyModule (kfd K d.addr).annotations (.ref (d.addr - 1)) (kfd K d.addr).closureTuple) }
noncomputable def exDf (K:Frag) (p:FD × Nat × Nat):Option Obj × Option Obj:=
  (some (seqOb "tuple" [.int 0 p.2.1,.none] 0),some { cls:=.type "dict",data:=.dict #[⟨((kes K (p.1.addr - 7)).getD 0 default).hash,.str "key" (match ((kes K (p.1.addr - 7)).getD 0 default).key with | .str _ t=>t | _=>0),.none⟩] (kn K (p.1.addr - 7)) })
noncomputable def nsL:List Nat:=[mainGlobals,builtinsNs]
structure KOk (K:Frag):Prop where
  f1:defTab.map (fun d=>K.lookup d.addr)=defTab.map fun d=>some (exFn K d)
  f2:defTab.all (fun d=>codeIn K (.ref (d.addr - 1)) d.name)=true
  f3:[(128,124),(135,131),(140,138),(145,143)].all (fun p=>codeHdIn K p.1 p.2)=true
  f4:lD.map (fun p=>(K.lookup (p.1.addr - 8),K.lookup (p.1.addr - 7)))=lD.map (exDf K)
  f5:(K.lookup 115,K.lookup cStatics,K.lookup 4)=(some (seqOb "tuple" [.ref 114] 0),some { cls:=.none,data:=.dict #[] 0 },some { cls:=.type "module",dict:=some builtinsNs,data:=.plain })
  f6:nsL.map (fun a=>(K.lookup a,(kob K a).data))=nsL.map (fun a=>(some (kob K a),Data.dict (kes K a) (kn K a)))
  f7:nsL.all (fun a=>(kes K a).all fun e=>match e.key with | .str _ _=>true | _=>false)=true
  f8:glob.map (fun p=>(nsFind (kes K mainGlobals) p.1,Nat.blt p.2 179))=glob.map (fun p=>(some (.ref p.2),true))
  f9:bglob.map (fun p=>(nsFind (kes K mainGlobals) p.1,nsFind (kes K builtinsNs) p.1))=bglob.map (fun p=>(none,some (bltV p.2)))
  f10:nsFind (kes K mainGlobals) "__builtins__" = some (.ref 4)
noncomputable def noBad (q:Option Obj):Bool:=match q with
  | some o=>(match o.cls with | .type t=>!(t == "traceback") | _=>true)
  | none=>false
noncomputable def tabs:List Nat:=[124,131,138,143]
theorem fall (P:Params):(defTab.map (fun d=>(top P).lookup d.addr),defTab.all (fun d=>codeIn (top P) (.ref (d.addr - 1)) d.name),[(128,124),(135,131),(140,138),(145,143)].all (fun p=>codeHdIn (top P) p.1 p.2),
    lD.map (fun p=>((top P).lookup (p.1.addr - 8),(top P).lookup (p.1.addr - 7))),((top P).lookup 115,(top P).lookup cStatics,(top P).lookup 4),
    nsL.map (fun a=>((top P).lookup a,(kob (top P) a).data)),nsL.all (fun a=>(kes (top P) a).all fun e=>match e.key with | .str _ _=>true | _=>false),
    glob.map (fun p=>(nsFind (kes (top P) mainGlobals) p.1,Nat.blt p.2 179)),bglob.map (fun p=>(nsFind (kes (top P) mainGlobals) p.1,nsFind (kes (top P) builtinsNs) p.1)),nsFind (kes (top P) mainGlobals) "__builtins__",
    tabs.map (fun a=>(H1 P).get? a),(List.range 179).all (fun a=>((H1 P).get? a).isSome),(H1 P).objs.size,(List.range 179).all (fun a=>noBad ((H1 P).get? a))) =
  (defTab.map fun d=>some (exFn (top P) d),true,true,lD.map (exDf (top P)),(some (seqOb "tuple" [.ref 114] 0),some { cls:=.none,data:=.dict #[] 0 },some { cls:=.type "module",dict:=some builtinsNs,data:=.plain }),
    nsL.map (fun a=>(some (kob (top P) a),Data.dict (kes (top P) a) (kn (top P) a))),true,glob.map (fun p=>(some (.ref p.2),true)),bglob.map (fun p=>(none,some (bltV p.2))),some (.ref 4),
    tabs.map (fun _=>some (tabObj #[])),true,179,true):=by kernel_rfl
theorem koks (P:Params):KOk (top P)∧tabs.map (fun a=>(H1 P).get? a)=tabs.map (fun _=>some (tabObj #[]))∧(List.range 179).all (fun a=>((H1 P).get? a).isSome)=true∧(H1 P).objs.size=179∧(List.range 179).all (fun a=>noBad ((H1 P).get? a))=true:=
  have e1:=Prod.mk.inj (fall P)
  have e2:=Prod.mk.inj e1.2
  have e3:=Prod.mk.inj e2.2
  have e4:=Prod.mk.inj e3.2
  have e5:=Prod.mk.inj e4.2
  have e6:=Prod.mk.inj e5.2
  have e7:=Prod.mk.inj e6.2
  have e8:=Prod.mk.inj e7.2
  have e9:=Prod.mk.inj e8.2
  have e10:=Prod.mk.inj e9.2
  have e11:=Prod.mk.inj e10.2
  have e12:=Prod.mk.inj e11.2
  have e13:=Prod.mk.inj e12.2
  ⟨⟨e1.1,e2.1,e3.1,e4.1,e5.1,e6.1,e7.1,e8.1,e9.1,e10.1⟩,e11.1,e12.1,e13.1,e13.2⟩
theorem kok (P:Params):KOk (top P):=(koks P).1
noncomputable def kP (a:Nat):Nat:=if a < 140 then a - 5 else a - 3
theorem f11:defTab.all (fun d=>!d.lam || ([(128,124),(135,131),(140,138),(145,143)].contains (d.addr - 1,kP d.addr) && κ0.contains (kP d.addr,d.name ++ ".<locals>.")))=true:=by decide +kernel
theorem f12:defTab.all (fun d=>if dflD d=true then lD.any (fun p=>p.1.addr == d.addr && τ0.contains (p.2.1,0)) else true)=true:=by decide +kernel
theorem str_keys {es:Array DictEntry} (hk:es.all (fun e=>match e.key with | .str _ _=>true | _=>false)=true):StrKeys es:=fun e m=>by
  have w:=Array.all_eq_true'.mp hk e m
  cases hq:e.key <;> rw [hq] at w <;> first | exact ⟨_,_,rfl⟩ | cases w
theorem mem_look {β:Type} {x:Str} {v:β} {l:List (Str × β)} (e:l.lookup x=some v):(x,v)∈l:=by
  induction l with
  | nil=>exact nomatch e
  | cons p r ih =>
    rw [look_cons] at e
    by_cases h:x=p.1
    · rw [if_pos h] at e;exact h ▸ Option.some.inj e ▸ .head _
    · rw [if_neg h] at e;exact .tail _ (ih e)
theorem mem_lookN {β:Type} {x:Nat} {v:β} {l:List (Nat × β)} (e:l.lookup x=some v):(x,v)∈l:=by
  induction l with
  | nil=>exact nomatch e
  | cons p r ih =>
    rw [List.lookup_cons] at e
    by_cases h:x=p.1
    · rw [beq_iff_eq.mpr h] at e;exact h ▸ Option.some.inj e ▸ .head _
    · rw [beq_eq_false_iff_ne.mpr h] at e;exact .tail _ (ih e)
section
variable {K:Frag} {h:Heap} (F:KOk K) (X:Frag.In K h)
include F X
theorem ns_at {a:Nat} (m:a∈nsL):h.Ns a (nsFind (kes K a)):=
  have e:=Prod.mk.inj (List.map_inj_left.mp F.f6 a m)
  ⟨_,_,_,X _ _ e.1,e.2,str_keys (List.all_eq_true.mp F.f7 a m),fun _=>rfl⟩
theorem dfl_at {d:FD} (hd:d∈defTab):DfV τ0 h d (dVof d) (kVof d):=by
  unfold DfV dVof kVof
  by_cases h1:dflD d=true
  · rw [if_pos h1,if_pos h1,if_pos h1]
    have w:=List.all_eq_true.mp f12 d hd
    rw [if_pos h1] at w
    exact (List.any_eq_true.mp w).elim fun p w=>by
      have w2:=Bool.and_eq_true_iff.mp w.2
      have e:=Prod.mk.inj (List.map_inj_left.mp F.f4 p w.1)
      rw [←eq_of_beq w2.1]
      exact ⟨_,0,_,_,_,_,_,rfl,rfl,List.contains_iff_mem.mp w2.2,X _ _ e.1,X _ _ e.2⟩
  · rw [if_neg h1,if_neg h1,if_neg h1]
    by_cases h2:d.addr=122
    · rw [if_pos h2,if_pos h2];exact ⟨rfl,_,_,_,rfl,X _ _ (Prod.mk.inj F.f5).1⟩
    · rw [if_neg h2,if_neg h2];exact ⟨rfl,rfl⟩
theorem fn_at {d:FD} (hd:d∈defTab):FnIn κ0 τ0 h d:=
  .mk (X _ _ (List.map_inj_left.mp F.f1 d hd)) (codeRec_of X (List.all_eq_true.mp F.f2 d hd)) (dfl_at F X hd) fun hl=>by
    have w:=List.all_eq_true.mp f11 d hd
    rw [hl] at w
    have w2:=Bool.and_eq_true_iff.mp w
    exact ⟨_,codeHd_of_K X (List.all_eq_true.mp F.f3 _ (List.contains_iff_mem.mp w2.1)),List.contains_iff_mem.mp w2.2⟩
theorem tp_at:Tp κ0 τ0 h:=
  have g5:=Prod.mk.inj F.f5
  have g6:=Prod.mk.inj g5.2
  ⟨⟨_,_,_,X _ _ g6.1,rfl,(fun _ m=>nomatch Array.mem_toList_iff.mpr m),fun _=>rfl⟩,
   ⟨_,_,ns_at F X (.head _),ns_at F X (.tail _ (.head _)),fun x a e=>have w:=Prod.mk.inj (List.map_inj_left.mp F.f8 _ (mem_look e));⟨w.1,Nat.le_of_ble_eq_true w.2⟩,
    fun x b e=>Prod.mk.inj (List.map_inj_left.mp F.f9 _ (mem_look e)),4,_,F.f10,by decide,by decide,by decide,X _ _ g6.2,rfl,rfl,rfl⟩,fun d=>fn_at F X⟩
end
theorem top_in {K:Frag} {h:Heap} (X:∀ p∈K,h.get? p.1=some p.2):Frag.In K h:=fun a o e=>X (a,o) (mem_lookN e)
theorem calm_ok {p:Nat × Obj} (h:calm p=true):p.1 < 179∧NoTb p.2∧(p.2.cls = .none→∀ vs,p.2.data ≠ .fields vs):=
  have w:=Bool.and_eq_true_iff.mp h
  ⟨Nat.le_of_ble_eq_true w.1,(fun q=>by have w2:=w.2;rw [q] at w2;exact nomatch w2),fun q vs e=>by have w2:=w.2;rw [q,e] at w2;exact nomatch w2⟩
noncomputable def gx (w:World):Gx:=⟨prg,w,top w.params,κ0,τ0,fun h X=>tp_at (kok _) (top_in X),fun p m=>calm_ok (top_sub m).2⟩
noncomputable def tokInts:Nat→List Int→List Value
  | _,[]=>[]
  | t,i :: r=>.int i t :: tokInts (t+1) r
noncomputable def tauInts:Nat→List Int→List (Nat × Int)
  | _,[]=>[]
  | t,i :: r=>(t,i) :: tauInts (t+1) r
theorem tau_low {l:List Int}:∀ {t:Nat} {p:Nat × Int},p∈tauInts t l→t≤p.1∧p.1 < t+l.length:=by
  induction l with
  | nil=>exact fun h=>nomatch h
  | cons i r ih=>exact fun {t p} h=>(List.mem_cons.mp h).elim (fun e=>e ▸ ⟨Nat.le_refl _,Nat.lt_add_of_pos_right (Nat.succ_pos _)⟩) fun h=>⟨Nat.le_of_succ_le (ih h).1,Nat.lt_of_lt_of_eq (ih h).2 (by rw [Nat.add_assoc,Nat.add_comm 1];rfl)⟩
theorem tau_fun {l:List Int}:∀ {t a:Nat} {i j:Int},(a,i)∈tauInts t l→(a,j)∈tauInts t l→i=j:=by
  induction l with
  | nil=>exact fun h=>nomatch h
  | cons k r ih =>
    exact fun {t a i j} h1 h2=>(List.mem_cons.mp h1).elim
      (fun e1=>(List.mem_cons.mp h2).elim (fun e2=>congrArg Prod.snd (e1.trans e2.symm)) fun m=>absurd (tau_low m).1 (by rw [(Prod.mk.inj e1).1];exact Nat.not_succ_le_self t))
      fun m1=>(List.mem_cons.mp h2).elim (fun e2=>absurd (tau_low m1).1 (by rw [(Prod.mk.inj e2).1];exact Nat.not_succ_le_self t)) fun m2=>ih m1 m2
theorem vrs_ints {x:Wd} {l:List Int}:∀ {t:Nat},(∀ p∈tauInts t l,p∈x.τ)→VRs x (l.map .int) (tokInts t l):=by
  induction l with
  | nil=>exact fun _=>.nil
  | cons i r ih=>exact fun h=>.cons ⟨_,h _ List.mem_cons_self,rfl⟩ (ih fun p m=>h p (List.mem_cons_of_mem _ m))
theorem fun_of_nodup {α β:Type} {P:α} {q q':β} {l:List (α × β)}:(l.map (·.1)).Nodup→(P,q)∈l→(P,q')∈l→q=q':=by
  induction l with
  | nil=>exact fun _ h=>nomatch h
  | cons p r ih =>
    exact fun h h1 h2 =>
      have w:=List.nodup_cons.mp h
      (List.mem_cons.mp h1).elim (fun e1=>(List.mem_cons.mp h2).elim (fun e2=>congrArg Prod.snd (e1.trans e2.symm)) fun m=>absurd (List.mem_map.mpr ⟨_,m,(congrArg Prod.fst e1:P=p.1)⟩) w.1)
        fun m1=>(List.mem_cons.mp h2).elim (fun e2=>absurd (List.mem_map.mpr ⟨_,m1,(congrArg Prod.fst e2:P=p.1)⟩) w.1) fun m2=>ih w.2 m1 m2
theorem τ0_low:∀ p∈τ0,p.1≠0∧p.1 < 300∧p.2=0:=by decide
noncomputable abbrev listOb (t0:Nat) (l:List Int):Obj:={ cls:=.type "list",data:=.seq (tokInts t0 l).toArray }
noncomputable abbrev wd0 (t0:Nat) (l:List Int):Wd:=⟨[179],κ0,τ0++tauInts t0 l⟩
theorem start_rl {g:Gx} {s:Shared} {t0:Nat} {l:List Int} (eg:g.κ₀=κ0∧g.τ₀=τ0) (T:∀ p∈g.top,s.heap.get? p.1=some p.2) (tb:∀ P∈tabs,s.heap.get? P=some (tabObj #[])) (al:∀ a,a < 179→∃ o,s.heap.get? a=some o) (gens:s.gens=#[]) (h0:300≤t0) (ht:s.toks=t0+l.length) (hl:s.heap.get? 179=some (listOb t0 l)) :
    Rl g (wd0 t0 l) [.fix (listOb t0 l) (l.map .int)] s where
  gens:=gens
  pos:=ht ▸ Nat.lt_of_lt_of_le (by decide) (Nat.le_trans h0 (Nat.le_add_right _ _))
  tok:=fun p m=>(List.mem_append.mp m).elim (fun m=>⟨(τ0_low p m).1,ht ▸ Nat.lt_of_lt_of_le (τ0_low p m).2.1 (Nat.le_trans h0 (Nat.le_add_right _ _))⟩) fun m=>⟨fun e=>absurd (Nat.le_trans h0 (tau_low m).1) (by rw [e];decide),ht ▸ (tau_low m).2⟩
  tfun:=fun t i j h1 h2=>(List.mem_append.mp h1).elim
    (fun m1=>(List.mem_append.mp h2).elim (fun m2=>(τ0_low _ m1).2.2.trans (τ0_low _ m2).2.2.symm) fun m2=>absurd (Nat.le_trans h0 (tau_low m2).1) (Nat.not_le.mpr (τ0_low _ m1).2.1))
    fun m1=>(List.mem_append.mp h2).elim (fun m2=>absurd (Nat.le_trans h0 (tau_low m1).1) (Nat.not_le.mpr (τ0_low _ m2).2.1)) fun m2=>tau_fun m1 m2
  kfun:=fun P q q' h1 h2=>fun_of_nodup (l:=κ0) (by decide:tabs.Nodup) h1 h2
  top:=T
  base:=⟨fun p (m:p∈g.κ₀)=>(eg.1 ▸ m:p∈κ0),fun p (m:p∈g.τ₀)=>List.mem_append_left _ (eg.2 ▸ m:p∈τ0)⟩
  len:=rfl
  nd:=List.nodup_cons.mpr ⟨nofun,.nil⟩
  low:=fun a m=>List.mem_singleton.mp m ▸ Nat.le_refl _
  obj:=fun i o a e1 e2=>match i,e1,e2 with
    | 0,e1,e2=>Option.some.inj e1 ▸ Option.some.inj e2 ▸ ⟨_,0,hl,rfl,vrs_ints fun p m=>List.mem_append_right _ m⟩
  tab:=fun P q m=>⟨#[],tb P (List.mem_map.mpr ⟨_,m,rfl⟩:P∈κ0.map (·.1)),trivial,fun pos cv e=>nomatch e⟩
  alive:=al
theorem has_cons {R:WRecords} {x:WData} {xs:List WData}:WShape.hasItems R (x :: xs) .int=(WShape.has R x .int && WShape.hasItems R xs .int):=by kernel_rfl
theorem has_int {R:WRecords} {x:WData} (h:WShape.has R x .int=true):∃ i,x = .int i:=by
  cases x <;> first | exact ⟨_,rfl⟩ | exact Bool.noConfusion (show false=true from h)
theorem hasItems_ints {R:WRecords} {xs:List WData}:WShape.hasItems R xs .int=true→∃ l:List Int,xs=l.map .int:=by
  induction xs with
  | nil=>exact fun _=>⟨[],rfl⟩
  | cons x xs ih=>exact fun h=>have w:=Bool.and_eq_true_iff.mp (has_cons.symm.trans h);(has_int w.1).elim fun i e=>(ih w.2).elim fun l e2=>⟨i :: l,by rw [e,e2];rfl⟩
theorem has_lst {R:WRecords} {xs:List WData}:WShape.has R (.list xs) (.list .int)=(WShape.hasItems R xs .int || false):=by kernel_rfl
theorem has_list {R:WRecords} {x:WData} (h:WShape.has R x (.list .int)=true):∃ xs,x = .list xs∧WShape.hasItems R xs .int=true:=by
  cases x <;> first | exact ⟨_,rfl,(Bool.or_false _).symm.trans (has_lst.symm.trans h)⟩ | exact Bool.noConfusion (show false=true from h)
theorem lt_val {xs:List WData}:WTm.value [] (.lt (.lit (.int 63)) (.len (.arg 0))) { args:=[.list xs] }=some (.bool (decide ((63:Int) < (xs.length:Int)))):=by kernel_rfl
theorem not_and {R:WRecords} {t u:WTm} {e:WCtx} (h:WTm.value R t e=some (.bool true)):WTm.holds R (.and (.not t) u) e=false:=by
  have h1:WTm.value R (.not t) e=some (.bool false):=(show _=(match WTm.value R t e with
    | some (.bool b)=>some (WData.bool (!b))
    | _ => none) by kernel_rfl).trans (by rw [h];rfl)
  have h2:WTm.value R (.and (.not t) u) e=some (.bool false):=(show _=(match WTm.value R (.not t) e with
    | some (.bool false)=>some (WData.bool false)
    | some (.bool true)=>(match WTm.value R u e with
      | some (.bool x)=>some (.bool x)
      | _ => none)
    | _ => none) by kernel_rfl).trans (by rw [h1])
  unfold WTm.holds
  rw [h2]
theorem args_of {args:List WData} (h:rwr.toRowW.claim.pre args=true):∃ l:List Int,args=[.list (l.map .int)]∧l.length≤63:=by
  have h1:=pre_splitW h
  refine (hasAllW_cons (ds:=args) (e:=.list .int) (es:=[]) h1.1).elim fun d q=>q.elim fun r q=>(has_list q.2.1).elim fun xs e=>(hasItems_ints e.2).elim fun l e2=>⟨l,?_⟩
  have e3:args=[.list (l.map .int)]:=by rw [q.1,e.1,e2,hasAllW_nil q.2.2]
  refine ⟨e3,Nat.not_lt.mp fun q=>?_⟩
  have h7:(OpenLaw.pre PySem.Challenge.rw_wy0026_01).holds [] { args:=[.list (l.map .int)] }=true:=e3 ▸ h1.2
  have lt:decide ((63:Int) < ((l.map WData.int).length:Int))=true:=decide_eq_true (by rw [List.length_map];exact Int.ofNat_lt.mpr q)
  exact nomatch (not_and (u:=.lit (.bool true)) (lt_val.trans (by rw [lt]))).symm.trans h7
theorem lay_ints {R:WRecords} {cl:Str→Option Addr} {P:Params} {ord:List DictEntry→List DictEntry} {l:List Int}:∀ {s:Shared} {q:List Value × Shared},layAllW R cl P ord (l.map .int) s=some q→q=(tokInts s.toks l,{ s with toks:=s.toks+l.length }):=by
  induction l with
  | nil=>exact fun h=>(Option.some.inj h).symm
  | cons i r ih =>
    intro s q h
    refine (layAllW_cons h).elim fun a w=>w.elim fun q2 w=>?_
    have e1:a=(.int i s.toks,{ s with toks:=s.toks+1 }):=(Option.some.inj w.1).symm
    subst e1
    have e2:=ih w.2.1
    subst e2
    rw [w.2.2]
    exact congrArg (fun n=>((.int i s.toks :: tokInts (s.toks+1) r,{ s with toks:=n }):List Value × Shared)) (by rw [Nat.add_assoc,Nat.add_comm 1];rfl)
noncomputable abbrev callerΓ:Ctx:=⟨.builtin "claim.caller" {},none,none,[],none⟩
theorem caller_good:Good callerΓ:=⟨by decide +kernel,fun _ m=>nomatch m⟩
theorem caller_wp {M:Model} {t:Sem Fin} {s:Shared} {R:Result→Shared→Prop} (h:wpAny M callerA t (fun fin s'=>∃ f,fin = .done f∧R (.ok f) s') (fun e s'=>R (.error e) s') s) :
    Sem.wp M callerΓ t (Sem.finPost M callerΓ R) (fun e _ s'=>R (.error e) s') default s:=
  Sem.wp_mono M callerΓ t (fun fin p' s' h'=>by obtain ⟨f,rfl,hR⟩:=h';exact hR) (fun _ _ _ h'=>h') default s (h callerΓ default caller_in caller_good)
theorem thread_ends {prog:Program} {w:World} {t:Sem Fin} {s:Shared} {R:Result→Shared→Prop} (hreg:s.asleep)
    (h:wpAny (model prog w) callerA t (fun fin s'=>∃ f,fin = .done f∧(R (.ok f) s'∧AllBare s'.gens)) (fun e s'=>R (.error e) s'∧AllBare s'.gens) s) :
    ∃ n r s' s'',PySem.runN (denote table) prog w n s ⟨t,.builtin "claim.caller" {},default,[]⟩ = .halted (outcomeOf r) s' ∧
      schedN (denote table) prog w n (.single s ⟨t,.builtin "claim.caller" {},default,[]⟩) = .halted (outcomeOf r) s'∧s'.forget=s''.forget∧R r s'':=by
  have h':=caller_wp (R:=fun r s'=>R r s'∧leftWithCleanup s'.gens=false) (wpAny_mono h (fun _ _ ⟨f,e,a,b⟩=>⟨f,e,a,leftWithCleanup_false_of_bare b⟩) fun _ _ ⟨a,b⟩=>⟨a,leftWithCleanup_false_of_bare b⟩)
  obtain ⟨n,r,s₁,s₂,hs,hn,hfo,hR⟩:=wp_halts_full (M:=model prog w) (R:=R) hreg h'
  exact ⟨n,r,s₂,s₁,hn,hs,hfo,hR⟩
theorem call_from {c:ClaimW} {tree:List Value→Sem Fin} {w:World} {s:Shared} {free:Addr→Prop} {gens:Prop} {kept:Heap→Prop} (hz:s.asleep) (hgens:s.gens=#[])
    (hspec : ∀ args,c.pre args=true→WData.layableAll args=true→∀ ord:List DictEntry→List DictEntry,(∀ l,(ord l).Perm l) →
      ∃ vs s₁,layAllW c.records (classAt s.heap) w.params ord args s=some (vs,s₁) ∧
        wpAny (model c.prog w) callerA (tree vs) (fun fin s'=>∃ f,fin = .done f∧(c.Ends s args vs s₁ (.ok f) s'∧s'.os=s.os∧AllBare s'.gens∧kept s'.heap))
          (fun e s'=>c.Ends s args vs s₁ (.error e) s'∧s'.os=s.os∧AllBare s'.gens∧kept s'.heap) s₁) :
    c.CallFrom (fun vs=>⟨tree vs,.builtin "claim.caller" {},default,[]⟩) w free gens kept s:=by
  intro args hpre hlay ord hord
  obtain ⟨vs,s₁,hlaid,hcode⟩:=hspec args hpre hlay ord hord
  obtain ⟨_,_,r3,r4⟩:=layAllW_rest _ _ _ hlaid
  obtain ⟨k,r,s',s'',hrun,hsched,hfo,hcase,hos,hkp⟩:=thread_ends (prog:=c.prog) (w:=w) (t:=tree vs) (s:=s₁) (R:=fun r s'=>c.Ends s args vs s₁ r s'∧s'.os=s.os∧kept s'.heap) (Shared.asleep_of_life r4 hz)
    (wpAny_mono hcode (fun fin s' ⟨f,e,h1,h2,h3,h4⟩=>⟨f,e,⟨h1,h2,h4⟩,h3⟩) fun e s' ⟨h1,h2,h3,h4⟩=>⟨⟨h1,h2,h4⟩,h3⟩)
  obtain ⟨eh,_,_,eo,_⟩:=Shared.forget_eq hfo
  have hcase:=hcase.congr eh
  rw [←eh] at hkp
  rw [←eo] at hos
  refine ⟨vs,s₁,hlaid,k,_,s',hsched,?_,(fun _ i x hx=>by rw [hgens] at hx;simp at hx),hkp,by rw [(runN_life _ _ _ hrun).trans r4],Shared.rest_eq hos⟩
  rcases hcase with ⟨v,rfl,d1,d2,d3,d4,d5⟩ | ⟨e,ob,cls,rfl,d1,d2,d3,d4,d5⟩
  · exact .inl ⟨v,rfl,d1,d2,d3,fun b o y _=>d4 b o y,d5⟩
  · exact .inr ⟨e,ob,cls,rfl,d1,d2,d3,d4,fun b o y _=>d5 b o y⟩
noncomputable abbrev lawRow:RowW:=rwr.toRowW
noncomputable abbrev WalkN:Prop:=∀ (w:World) (s₀ s₁:Shared) (mg:Str→Option Value),s₀.heap=H1 w.params→s₀.toks=421→s₁.gens=#[]→∀ {args:List WData} {vals:List Value} {as:List Addr},lawRow.claim.pre args=true→Laid lawRow.records w s₀ s₁ args vals as→∀ {mean:ExcName→Option Value},
      wpAny (model lawRow.prog w) callerA (PySem.call (.ref 178) vals) (fun v s'=>GoodWG lawRow.claim (classAt s₀.heap) mean args s₁ (.ok (.ret v)) s')
        (fun e s'=>GoodWG lawRow.claim (classAt s₀.heap) mean args s₁ (.error e) s') s₁
theorem Ns.uniq {h:Heap} {a:Addr} {m m':Str→Option Value} (x:h.Ns a m) (y:h.Ns a m') (n:Str):m n=m' n:=x.elim fun o x=>x.elim fun es x=>x.elim fun ep x=>y.elim fun o' y=>y.elim fun es' y=>y.elim fun ep' y=>by
  have e:=Option.some.inj (x.1.symm.trans y.1)
  subst e
  have e:=(Data.dict.inj (x.2.1.symm.trans y.2.1)).1
  subst e
  exact (x.2.2.2 n).symm.trans (y.2.2.2 n)
theorem in_top {h:Heap}:Frag.In (topOf h) h:=top_in fun p m=>(top_sub m).1
theorem in_H1 {w:World} {h:Heap} (e:h=H1 w.params):Frag.In (top w.params) h:=e ▸ in_top
theorem law_look:glob.lookup ("law" : Str)=some 178:=by kernel_rfl
theorem law_at {w:World} {h:Heap} {mg:Str→Option Value} (g:h.Ns mainGlobals mg) (X:Frag.In (top w.params) h):mg "law" = some (.ref 178):=
  (tp_at (kok _) X).ns.elim fun m1 n=>n.elim fun _ n=>(Ns.uniq g n.1 "law").trans (n.2.2.1 _ _ law_look).1
theorem said:PySem.Challenge.rw_wy0026_01.wellSaid=true:=by kernel_rfl
theorem oks:(chainsOk vw && opensWell rwr.prog && (frees lawRow && rwr.within.isEmpty))=true:=by kernel_rfl
noncomputable def lawD:DefRec:={ name:="law",params:=dLaw.params,body:=dLaw.body,scope:=dLaw.scope,pos:=⟨191,0,207,115⟩ }
theorem hdef:defOf vw rwr.name=some (lawD,[]):=by kernel_rfl
theorem hp:rwr.prog.theDef rwr.name=some (lawD.params,lawD.body,lawD.scope):=by kernel_rfl
theorem hk:kwWritten? lawD.params.kwonlyargs lawD.params.kw_defaults=some []:=by kernel_rfl
theorem hb:rwr.prog.bare:=⟨by kernel_rfl,by kernel_rfl,by kernel_rfl,by kernel_rfl,by kernel_rfl,by decide +kernel⟩
theorem hw:rwr.toRowW.promised:=⟨[.list []],by decide +kernel,by decide +kernel⟩
theorem y1 {F:Params→Heap} {s:Shared} {w:World} (y:(fun s:Shared=>(s.heap,s.toks)) s=(fun w:World=>(F w.params,421)) w):s.heap=F w.params∧s.toks=421:=Prod.mk.inj y
theorem mk0:rwr.claim.makers=[]:=by kernel_rfl
theorem holds_of (call:WalkN):PySem.Challenge.rw_wy0026_01.Holds:=holds_law said fun k1=>by
  have ok:=Bool.and_eq_true_iff.mp oks
  have ok1:=Bool.and_eq_true_iff.mp ok.1
  have ok2:=Bool.and_eq_true_iff.mp ok.2
  obtain ⟨hsame,hu,ha,hap,hm⟩:=frees_parts ok2.1
  refine ⟨k1,hw,⟨hb,ok1.2,mk0⟩,hw.witness,fun w=>⟨(left.behind (XP:=fun _ h=>RecFacts rwr.records h) (fun s hs=>recFacts_of hs) ok1.1 w).1,fun s' hs'=>?_⟩⟩
  obtain ⟨s₀,hf,hg0,s,hT,hz,hgens,hg,G00,y⟩:=(left.behind (XP:=fun _ h=>RecFacts rwr.records h) (fun s hs=>recFacts_of hs) ok1.1 w).2 s' hs'
  have RF:=G00.X
  have G:=RF.ground G00
  refine ⟨s₀,hf,hg0,s,hT,fun n hn=>?_,RF.1,RF.2.1,?_⟩
  · obtain rfl:n=rwr.name:=by split at hn <;> simp_all
    exact pinned_of_view hg G00 hdef hp hk
  have hgens:s.gens=#[]:=Array.eq_empty_of_size_eq_zero (beq_iff_eq.mp hgens)
  refine call_from (c:=rwr.claim) hz hgens fun args hpre hlay ord hord=>?_
  obtain ⟨⟨vs,s₁⟩,hlaid⟩:=Option.isSome_iff_exists.mp (layAllW_isSome (P:=w.params) (ord:=ord) G.has args rwr.args s (pre_splitW hpre).1)
  have keeps:=layAllW_keeps _ _ _ hlaid
  have hal:=layAllW_rest _ _ _ hlaid
  obtain ⟨as,hrd,hin,hold⟩:=reads_layAllW hord _ _ _ hlaid hlay s₁.heap (fun _ _ e=>e)
  have L:Laid rwr.records w s s₁ args vs as:=⟨⟨ord,hord,hlaid⟩,hrd,hin,hold,keeps,hal.1.trans hgens,hal.2.2.1⟩
  have y2:=y1 (F:=H1) y
  have h:=call w s s₁ (fun _=>none) y2.1 y2.2 L.gens hpre L (mean:=ExcName.means s.heap)
  have hi:=ident_freeW hu ha hap
  have hwi:rwr.claim.within=[]:=List.isEmpty_iff.mp ok2.2
  refine ⟨vs,s₁,hlaid,wpAny_bind (wpAny_nsGet (G00.T.g.keeps keeps) ?_)⟩
  have ln:s.heap.nsMap mainGlobals rwr.name=some (.ref 178):=law_at (w:=w) G00.T.g (in_H1 y2.1)
  rw [ln]
  refine wpAny_bind (wpAny_mono h (fun v s' g=>?_) fun e s' g=>?_)
  · have z:=g.laid (c:=rwr.claim) hsame hwi hi L
    exact wpAny_pure ⟨_,rfl,z.1,z.2.1,z.2.2,fun q=>⟨namesKept_of hT hg _ keeps g.2.1.old,noTable (by kernel_rfl) q⟩⟩
  · have z:=g.laid (c:=rwr.claim) hsame hwi hi L
    exact ⟨z.1,z.2.1,z.2.2,fun q=>⟨namesKept_of hT hg _ keeps g.2.1.old,noTable (by kernel_rfl) q⟩⟩
noncomputable def Answers:Prop:=∀ (w:World) (o:Obj) (l:List Int),l.length≤63→∃ H',Call (gx w) 400 false [.fix o (l.map .int)] (.top 178) [.ob 0] [] (.bool true) (.fix o (l.map .int) :: H')
theorem top_keep {h₁ h:Heap} (Y:∀ a o,h₁.get? a=some o→h.get? a=some o):∀ p∈topOf h₁,h.get? p.1=some p.2:=fun p m=>Y _ _ (top_sub m).1
theorem gx_top (w:World):(gx w).top=topOf (H1 w.params):=by with_reducible (unfold gx top);rfl
theorem post_ok (args as:List WData):lawRow.claim.post args (.bool true) as=true:=by kernel_rfl
theorem tab_rec {K:Frag} {h:Heap} {P:Addr} (F:KOk K) (X:Frag.In K h) (m:P∈tabs):∃ c,CodeHd h c P:=by
  have w:=List.all_eq_true.mp F.f3
  have q:∃ c,(c,P)∈[(128,124),(135,131),(140,138),(145,143)]:=by
    revert m
    show P∈[124,131,138,143]→_
    intro m
    simp only [List.mem_cons,List.not_mem_nil,or_false] at m
    rcases m with rfl | rfl | rfl | rfl
    · exact ⟨128,by decide⟩
    · exact ⟨135,by decide⟩
    · exact ⟨140,by decide⟩
    · exact ⟨145,by decide⟩
  exact q.elim fun c q=>⟨c,codeHd_of_K X (w _ q)⟩
theorem room:1+claimMargin+400 < recursionLimit∧4+20 * 400+200 < cLine:=by decide +kernel
theorem kept {g:Gx} {y:Wd} {H:AHeap} {s t:Shared} {t0:Nat} {l:List Int} {K:Frag} (F:KOk K) (X:Frag.In K s.heap) (tb:∀ P∈tabs,s.heap.get? P=some (tabObj #[])) (al:∀ a,a < 179→∃ o,s.heap.get? a=some o∧NoTb o)
    (hsz:s.heap.objs.size=180) (hl:s.heap.get? 179=some (listOb t0 l)) (z:Rl g y (.fix (listOb t0 l) (l.map .int) :: H) t) (st:Step [] (wd0 t0 l) s y t) :
    ∀ p o,s.heap.get? p=some o→t.heap.get? p=some o∨∃ c ps,CodeHd s.heap c p∧o=tabObj #[]∧t.heap.get? p=some (tabObj ps):=fun p o e=>by
  have hlt:p < 180:=hsz ▸ Heap.lt_size e
  by_cases h9:p=179
  · subst h9
    refine (z.obj 0 _ 179 rfl (prefix_get st.le.1 rfl)).elim fun vs q=>q.elim fun n q=>.inl ?_
    rw [←Option.some.inj (hl.symm.trans e)]
    exact q.1
  · have lt:p < 179:=Nat.lt_of_le_of_ne (Nat.le_of_lt_succ hlt) h9
    by_cases hκ:p∈tabs
    · have ho:=Option.some.inj ((tb p hκ).symm.trans e)
      have m:∃ q,(p,q)∈κ0:=(List.mem_map.mp (show p∈κ0.map (·.1) from hκ)).elim fun r w=>⟨r.2,w.2 ▸ w.1⟩
      exact m.elim fun q m=>(z.tab p q (st.le.2.1 _ m)).elim fun ps w=>(tab_rec F X hκ).elim fun c hc=>.inr ⟨c,ps,hc,ho.symm,w.1⟩
    · refine (al p lt).elim fun o' w=>.inl ?_
      have eo:=Option.some.inj (w.1.symm.trans e)
      exact (st.keep p o e (fun q=>q.elim (fun q=>h9 (List.mem_singleton.mp q)) fun q=>q.elim fun q m=>hκ (List.mem_map.mpr ⟨_,m,rfl⟩:p∈κ0.map (·.1))) (fun q=>nomatch q) (eo ▸ w.2)).elim id fun q=>absurd q.1 (Nat.not_le.mpr lt)
theorem there {h:Heap} (f:(List.range 179).all (fun a=>(h.get? a).isSome)=true) (f2:(List.range 179).all (fun a=>noBad (h.get? a))=true) {a:Nat} (ha:a < 179):∃ o,h.get? a=some o∧NoTb o:=
  (Option.isSome_iff_exists.mp (List.all_eq_true.mp f a (List.mem_range.mpr ha))).imp fun o e=>⟨e,fun q=>by
    have w:=List.all_eq_true.mp f2 a (List.mem_range.mpr ha)
    rw [e] at w
    have w:(match o.cls with | .type t=>!(t == "traceback") | _=>true)=true:=w
    rw [q] at w
    exact nomatch w⟩
theorem walk_at {w:World} {g:Gx} {K:Frag} {h₁:Heap} (F:KOk K) (X:Frag.In K h₁) (eg:g.κ₀=κ0∧g.τ₀=τ0) (etop:g.top=topOf h₁) (epr:g.prog=lawRow.prog∧g.w=w) (tb:∀ P∈tabs,h₁.get? P=some (tabObj #[])) (al:∀ a,a < 179→∃ o,h₁.get? a=some o∧NoTb o) (sz:h₁.objs.size=179)
    {s₀ s₁:Shared} (e0:s₀.heap=h₁) (et:s₀.toks=421) (hgens:s₁.gens=#[]) {args:List WData} {vals:List Value} {as:List Addr} (hpre:lawRow.claim.pre args=true) (L:Laid lawRow.records w s₀ s₁ args vals as) {mean:ExcName→Option Value}
    (ans:∀ (o:Obj) (l:List Int),l.length≤63→∃ H',Call g 400 false [.fix o (l.map .int)] (.top 178) [.ob 0] [] (.bool true) (.fix o (l.map .int) :: H')) :
    wpAny (model lawRow.prog w) callerA (PySem.call (.ref 178) vals) (fun v s'=>GoodWG lawRow.claim (classAt s₀.heap) mean args s₁ (.ok (.ret v)) s')
        (fun e s'=>GoodWG lawRow.claim (classAt s₀.heap) mean args s₁ (.error e) s') s₁:=by
  subst e0
  obtain ⟨l,rfl,hlen⟩:=args_of hpre
  obtain ⟨ord,_,hlaid⟩:=L.laid
  obtain ⟨v1,q1,e1,e2,e3⟩:=layAllW_cons hlaid
  obtain ⟨q2,e4,rfl⟩:=layW_list e1
  have e5:=lay_ints e4
  subst e5
  have e6:q1=([],_):=(Option.some.inj e2).symm
  subst e6
  have hv:vals=[.ref s₀.heap.objs.size]:=congrArg Prod.fst e3
  rw [sz] at hv
  have hs:s₁={ s₀ with heap:=s₀.heap.push (listOb s₀.toks l),toks:=s₀.toks+l.length }:=congrArg Prod.snd e3
  subst hv
  have hl:s₁.heap.get? 179=some (listOb s₀.toks l):=by rw [hs,←sz];exact Heap.get?_push_size _ rfl
  have hsize:s₁.heap.objs.size=180:=by rw [hs];exact (Heap.size_push ..).trans (congrArg (·+1) sz)
  have tb1:∀ P∈tabs,s₁.heap.get? P=some (tabObj #[]):=fun P m=>L.keeps _ _ (tb P m)
  have al1:∀ a,a < 179→∃ o,s₁.heap.get? a=some o∧NoTb o:=fun a q=>(al a q).imp fun o w=>⟨L.keeps _ _ w.1,w.2⟩
  have X1:Frag.In K s₁.heap:=X.keeps L.keeps
  have z:Rl g (wd0 s₀.toks l) [.fix (listOb s₀.toks l) (l.map .int)] s₁:=start_rl eg (etop ▸ top_keep L.keeps) tb1 (fun a q=>(al1 a q).imp fun _ w=>w.1) hgens (et ▸ by decide) (by rw [hs]) hl
  have am:Amb (wd0 s₀.toks l) s₁.heap callerA 400 false:=⟨room.1,room.2,.inl rfl,[],rfl,fun _ m=>nomatch m⟩
  obtain ⟨H',he⟩:=ans (listOb s₀.toks l) l hlen
  rw [←epr.1,←epr.2]
  refine he z am ⟨rfl,by decide⟩ (.cons ⟨179,rfl,rfl⟩ .nil) .nil fun {y t v} st z' hv=>?_
  obtain rfl:v = .bool true:=hv
  have same:=st.same
  refine ⟨.inl ⟨.bool true,.bool true,[],rfl,fun _=>rfl,.bool true,post_ok _ _,fun _=>⟨List.nodup_nil,fun _ m=>nomatch m⟩⟩,⟨fun p o e=>?_,st.size⟩,?_,?_⟩
  · refine (kept F X1 tb1 al1 hsize hl z' st p o e).imp id fun q=>.inl ?_
    obtain ⟨c,ps,hc,ho,hp⟩:=q
    obtain ⟨o2,vs,_,_,_,_,_,_,_,c1,c2,c3,c4,_⟩:=hc
    subst ho
    exact ⟨⟨c,o2,vs,c1,c2,c3,c4⟩,rfl,#[],ps,rfl,by rw [hp,Array.empty_append]⟩
  · obtain ⟨h,tk,rfl⟩:=same;rfl
  · obtain ⟨h,tk,rfl⟩:=same
    intro y m
    rw [show ({ s₁ with heap:=h,toks:=tk }:Shared).gens=#[] from hgens] at m
    exact absurd m (Array.not_mem_empty y)
theorem tabs_at (P:Params):∀ a∈tabs,(H1 P).get? a=some (tabObj #[]):=List.map_inj_left.mp (koks P).2.1
theorem alive_at (P:Params):∀ a,a < 179→∃ o,(H1 P).get? a=some o∧NoTb o:=fun a h=>there (koks P).2.2.1 (koks P).2.2.2.2 h
theorem gx_eq (w:World):(gx w).κ₀=κ0∧(gx w).τ₀=τ0:=⟨rfl,rfl⟩
theorem gx_pr (w:World):(gx w).prog=lawRow.prog∧(gx w).w=w:=⟨rfl,rfl⟩
theorem walk_of (ans:Answers):WalkN:=by
  intro w s₀ s₁ mg e0 et hgens _ _ _ hpre L _
  have X:Frag.In (top w.params) (H1 w.params):=in_H1 (h:=H1 w.params) (w:=w) rfl
  have F:=kok w.params
  have a1:=gx_top w
  have a2:=tabs_at w.params
  have a3:=alive_at w.params
  have a4:=(koks w.params).2.2.2.1
  revert e0 X F a1 a2 a3 a4
  generalize top w.params=K
  generalize H1 w.params=h₁
  intro e0 X F a1 a2 a3 a4
  exact walk_at (g:=gx w) F X (gx_eq w) a1 (gx_pr w) a2 a3 a4 e0 et hgens hpre L (ans w)
theorem holds_by (ans:Answers):PySem.Challenge.rw_wy0026_01.Holds:=holds_of (walk_of ans)
end Mine
namespace Mine.S
open PySem PySem.Calls PyProof.Rows PySem.W PySem.SeqAt PySem.Spec
structure Ev (c:Cx) (l:Loc) (H:AHeap) (e:Expr) (v:AV) (H':AHeap):Prop where
  run:_root_.Mine.Ev c l H e v H'
structure EvX (c:Cx) (l:Loc) (H:AHeap) (e:Expr) (i:Nat) (H':AHeap):Prop where
  run:_root_.Mine.EvX c l H e i H'
structure Ts (c:Cx) (l:Loc) (H:AHeap) (e:Expr) (b:Bool) (H':AHeap):Prop where
  run:_root_.Mine.Ts c l H e b H'
structure Es (c:Cx) (l:Loc) (H:AHeap) (es:List Expr) (vs:List AV) (H':AHeap):Prop where
  run:_root_.Mine.Es c l H es vs H'
structure Ks (c:Cx) (l:Loc) (H:AHeap) (ks:List Keyword) (vs:List (Str × AV)) (H':AHeap):Prop where
  run:_root_.Mine.Ks c l H ks vs H'
structure Call (g:Gx) (n:Nat) (hd:Bool) (H:AHeap) (f:AV) (args:List AV) (kws:List (Str × AV)) (v:AV) (H':AHeap):Prop where
  run:_root_.Mine.Call g n hd H f args kws v H'
structure CallX (g:Gx) (n:Nat) (hd:Bool) (H:AHeap) (f:AV) (args:List AV) (kws:List (Str × AV)) (i:Nat) (H':AHeap):Prop where
  run:_root_.Mine.CallX g n hd H f args kws i H'
structure As (c:Cx) (l:Loc) (H:AHeap) (tg:Expr) (v:AV) (l':Loc) (H':AHeap):Prop where
  run:_root_.Mine.As c l H tg v l' H'
structure St (c:Cx) (l:Loc) (H:AHeap) (st:Stmt) (r:SOut):Prop where
  run:_root_.Mine.St c l H st r
structure Ex (c:Cx) (l:Loc) (H:AHeap) (b:List Stmt) (r:SOut):Prop where
  run:_root_.Mine.Ex c l H b r
structure Ch (c:Cx) (l:Loc) (H:AHeap) (v:AV) (ops:List CmpOp) (rs:List Expr) (b:Bool) (H':AHeap):Prop where
  run:_root_.Mine.Ch c l H v ops rs b H'
structure Al (c:Cx) (l:Loc) (H:AHeap) (op:BoolOp) (es:List Expr) (b:Bool) (H':AHeap):Prop where
  run:_root_.Mine.Al c l H op es b H'
structure Bo (c:Cx) (l:Loc) (H:AHeap) (es:List Expr) (v:AV) (H':AHeap):Prop where
  run:_root_.Mine.Bo c l H es v H'
structure OptE (c:Cx) (l:Loc) (H:AHeap) (e:Option Expr) (v:AV) (H':AHeap):Prop where
  run:_root_.Mine.OptE c l H e v H'
structure It (c:Cx) (l:Loc) (H:AHeap) (e:Expr) (it:AIter) (H':AHeap):Prop where
  run:_root_.Mine.It c l H e it H'
structure Turn (c:Cx) (l:Loc) (H:AHeap) (tg:Expr) (it:AIter) (l1:Loc) (H1:AHeap) (it':AIter):Prop where
  run:_root_.Mine.Turn c l H tg it l1 H1 it'
structure Fr (c:Cx) (l:Loc) (H:AHeap) (tg:Expr) (it:AIter) (b:List Stmt) (o:List Stmt) (r:SOut):Prop where
  run:_root_.Mine.Fr c l H tg it b o r
structure Wh (c:Cx) (l:Loc) (H:AHeap) (t:Expr) (b:List Stmt) (l':Loc) (H':AHeap):Prop where
  run:_root_.Mine.Wh c l H t b l' H'
structure Fs (c:Cx) (l:Loc) (H:AHeap) (ifs:List Expr) (q:Bool) (H':AHeap):Prop where
  run:_root_.Mine.Fs c l H ifs q H'
structure Ge (c:Cx) (l:Loc) (H:AHeap) (elt:Expr) (gs:List Comprehension) (it:AIter) (acc:Nat) (l':Loc) (H':AHeap):Prop where
  run:_root_.Mine.Ge c l H elt gs it acc l' H'
section
variable {c:Cx} {g:Gx} {x y:Wd} {H H1 H2 H3:AHeap} {s t:Shared} {A:Around} {l:Loc} {env:Env} {k:K} {e e1 e2:Expr} {v v1 v2:AV} {nm:Str} {pos:Pos} {Q:Post Value} {E:Post Value} {n:Nat} {hd:Bool}
theorem ev_loc (h:locQ c.k nm=true) (e:l.lookup nm=some v):Ev c l H (.Name nm pos) v H:=⟨_root_.Mine.ev_loc h e⟩
theorem ev_cell {i:Nat} (h:cellQ c.k nm=some i) (e:H[i]? = some (.cell (some v))):Ev c l H (.Name nm pos) v H:=⟨_root_.Mine.ev_cell h e⟩
theorem ev_glob {a:Nat} (h:globQ c.k nm=true) (e:glob.lookup nm=some a):Ev c l H (.Name nm pos) (.top a) H:=⟨_root_.Mine.ev_glob h e⟩
theorem ev_blt {b:Bool × String} (h:globQ c.k nm=true) (e:bglob.lookup nm=some b):Ev c l H (.Name nm pos) (bltA b) H:=⟨_root_.Mine.ev_blt h e⟩
theorem ev_int {i:Int} {a:Nat}:Ev c l H (.Constant (.int i) a pos) (.int i) H:=⟨_root_.Mine.ev_int⟩
theorem ev_str {i:Str} {a:Nat}:Ev c l H (.Constant (.str i) a pos) (.str i) H:=⟨_root_.Mine.ev_str⟩
theorem ev_none {a:Nat}:Ev c l H (.Constant .none a pos) .none H:=⟨_root_.Mine.ev_none⟩
theorem ev_bool {b:Bool} {a:Nat}:Ev c l H (.Constant (.bool b) a pos) (.bool b) H:=⟨_root_.Mine.ev_bool⟩
theorem ev_bin {op:Operator} (h1:Ev c l H e1 v1 H1) (h2:Ev c l H1 e2 v2 H2) (h3:Bin c.g op v1 v2 H2 v H3):Ev c l H (.BinOp e1 op e2 pos) v H3:=⟨_root_.Mine.ev_bin h1.run h2.run h3⟩
theorem ev_neg {i:Int} (h:Ev c l H e (.int i) H1):Ev c l H (.UnaryOp .USub e pos) (.int (-i)) H1:=⟨_root_.Mine.ev_neg h.run⟩
theorem ev_ifexp {t:Expr} {b:Bool} (h:Ts c l H t b H1) (h2:Ev c l H1 (if b=true then e1 else e2) v H2):Ev c l H (.IfExp t e1 e2 pos) v H2:=⟨_root_.Mine.ev_ifexp h.run h2.run⟩
theorem es_nil:Es c l H [] [] H:=⟨_root_.Mine.es_nil⟩
theorem es_cons {r:List Expr} {vs:List AV} (h1:Ev c l H e v H1) (h2:Es c l H1 r vs H2):Es c l H (e :: r) (v :: vs) H2:=⟨_root_.Mine.es_cons h1.run h2.run⟩
theorem ev_list {es:List Expr} {vs:List AV} (hn:Plain es) (h:Es c l H es vs H1) (hl:vs.length≤1000):Ev c l H (.List es pos) (.ob H1.length) (H1++[.list vs]):=⟨_root_.Mine.ev_list hn h.run hl⟩
theorem ev_tup {es:List Expr} {vs:List AV} {i:Nat} (hn:Plain es) (h:Es c l H es vs H1) (hl:vs.length≤1000):Ev c l H (.Tuple es i pos) (.ob H1.length) (H1++[.tup vs]):=⟨_root_.Mine.ev_tup hn h.run hl⟩
end
section
variable {c:Cx} {g:Gx} {x y:Wd} {H H1 H2 H3:AHeap} {s t:Shared} {A:Around} {l:Loc} {env:Env} {k:K} {e e1 e2:Expr} {v v1 v2:AV} {nm:Str} {pos:Pos} {Q:Post Value} {E:Post Value} {n:Nat} {hd:Bool} {b:Bool}
theorem ev_cmp {op:CmpOp} (hm:Marks [op] [e2]) (h1:Ev c l H e1 v1 H1) (h2:Ev c l H1 e2 v2 H2) (h3:Cmp c.g op v1 v2 H2 b):Ev c l H (.Compare e1 [op] [e2] pos) (.bool b) H2:=⟨_root_.Mine.ev_cmp hm h1.run h2.run h3⟩
theorem ch_one {op:CmpOp} (h1:Ev c l H e v2 H1) (h3:Cmp c.g op v1 v2 H1 b):Ch c l H v1 [op] [e] b H1:=⟨_root_.Mine.ch_one h1.run h3⟩
theorem ch_cons {op op':CmpOp} {ops:List CmpOp} {e':Expr} {rs:List Expr} (h1:Ev c l H e v2 H1) (h3:Cmp c.g op v1 v2 H1 true) (h:Ch c l H1 v2 (op' :: ops) (e' :: rs) b H2):Ch c l H v1 (op :: op' :: ops) (e :: e' :: rs) b H2:=⟨_root_.Mine.ch_cons h1.run h3 h.run⟩
theorem ch_stop {op op':CmpOp} {ops:List CmpOp} {e':Expr} {rs:List Expr} (h1:Ev c l H e v2 H1) (h3:Cmp c.g op v1 v2 H1 false):Ch c l H v1 (op :: op' :: ops) (e :: e' :: rs) false H1:=⟨_root_.Mine.ch_stop h1.run h3⟩
theorem ts_cmp {ops:List CmpOp} {rs:List Expr} (hm:Marks ops rs) (h1:Ev c l H e v H1) (h2:Ch c l H1 v ops rs b H2):Ts c l H (.Compare e ops rs pos) b H2:=⟨_root_.Mine.ts_cmp hm h1.run h2.run⟩
theorem ts_not (h:Ts c l H e b H1):Ts c l H (.UnaryOp .Not e pos) (!b) H1:=⟨_root_.Mine.ts_not h.run⟩
theorem ts_name {a:Pos} (h:Ev c l H (.Name nm a) (.bool b) H1):Ts c l H (.Name nm a) b H1:=⟨_root_.Mine.ts_name h.run⟩
theorem ts_call {es:List Expr} {ks:List Keyword} {a:Pos} (h:Ev c l H (.Call e es ks a) (.bool b) H1):Ts c l H (.Call e es ks a) b H1:=⟨_root_.Mine.ts_call h.run⟩
theorem ts_row {op:BoolOp} {es:List Expr} (h:Al c l H op es b H1):Ts c l H (.BoolOp op es pos) b H1:=⟨_root_.Mine.ts_row h.run⟩
theorem al_nil {op:BoolOp}:Al c l H op [] (op == .And) H:=⟨_root_.Mine.al_nil⟩
theorem al_go {op:BoolOp} {es:List Expr} {q:Bool} (hq:q=(op == .And)) (h1:Ts c l H e q H1) (h2:Al c l H1 op es b H2):Al c l H op (e :: es) b H2:=⟨_root_.Mine.al_go hq h1.run h2.run⟩
theorem al_stop {op:BoolOp} {es:List Expr} {q:Bool} (hq:q=(op == .Or)) (h1:Ts c l H e q H1):Al c l H op (e :: es) q H1:=⟨_root_.Mine.al_stop hq h1.run⟩
theorem ev_and {es:List Expr} (h:Bo c l H es v H1):Ev c l H (.BoolOp .And es pos) v H1:=⟨_root_.Mine.ev_and h.run⟩
theorem bo_one (h:Ev c l H e v H1):Bo c l H [e] v H1:=⟨_root_.Mine.bo_one h.run⟩
theorem bo_cons {r:List Expr} (h1:Ev c l H e (.bool true) H1) (h2:Bo c l H1 (e2 :: r) v H2):Bo c l H (e :: e2 :: r) v H2:=⟨_root_.Mine.bo_cons h1.run h2.run⟩
end
section
variable {c:Cx} {g:Gx} {x y:Wd} {H H1 H2 H3:AHeap} {s t:Shared} {A:Around} {l:Loc} {env:Env} {e e1 e2:Expr} {v v1 v2:AV} {nm:Str} {pos:Pos} {Q:Post Value} {E:Post Value}
theorem ev_attr {i:Nat} (hb:Base e) (h1:Ev c l H e (.ob i) H1) (h:AttrQ H1 i nm v):Ev c l H (.Attribute e nm pos) v H1:=⟨_root_.Mine.ev_attr hb h1.run h⟩
theorem ev_idx (hs:NoSlice e2) (h1:Ev c l H e1 v1 H1) (h2:Ev c l H1 e2 v2 H2) (h3:Idx c.g H2 v1 v2 v):Ev c l H (.Subscript e1 e2 pos) v H2:=⟨_root_.Mine.ev_idx hs h1.run h2.run h3⟩
theorem opt_none:OptE c l H none .none H:=⟨_root_.Mine.opt_none⟩
theorem opt_some (h:Ev c l H e v H1):OptE c l H (some e) v H1:=⟨_root_.Mine.opt_some h.run⟩
theorem ev_slice {i:Nat} {xs:List AV} {o1 o2:Option Expr} {lo hi:Option Int} {a1:Pos} (h1:Ev c l H e1 (.ob i) H1) (h2:OptE c l H1 o1 v1 H2) (h3:OptE c l H2 o2 v2 H3) (b1:Bnd v1 lo) (b2:Bnd v2 hi) (h:ListQ H3 i xs) (hl:xs.length≤1000) :
    Ev c l H (.Subscript e1 (.Slice o1 o2 none a1) pos) (.ob H3.length) (H3++[.list (pickA xs lo hi)]):=⟨_root_.Mine.ev_slice h1.run h2.run h3.run b1 b2 h hl⟩
end
section
variable {c:Cx} {g:Gx} {x y:Wd} {H H1 H2 H3 H4:AHeap} {s t:Shared} {A:Around} {l:Loc} {env:Env} {e e1 e2:Expr} {v v1 v2 f:AV} {nm:Str} {pos np ap:Pos} {Q:Post Value} {E:Post Value} {r:List Expr} {vs:List AV} {ks:List Keyword} {kv:List (Str × AV)} {n:Nat} {hd:Bool} {i:Nat} {xs:List AV}
theorem ev_meth (hb:Base e1) (hs:Plain (e :: r)) (hc:CallForm (e :: r)) (hp:(ap.endLine == pos.line)=true) (h1:Ev c l H e1 (.ob i) H1) (hx:H1[i]? = some (.list xs)) (h2:Es c l H1 (e :: r) vs H2) (h3:Meth c.g H2 i nm vs H3) :
    Ev c l H (.Call (.Attribute e1 nm ap) (e :: r) [] pos) .none H3:=⟨_root_.Mine.ev_meth hb hs hc hp h1.run hx h2.run h3⟩
theorem ks_nil:Ks c l H [] [] H:=⟨_root_.Mine.ks_nil⟩
theorem ks_cons {kr:List Keyword} (h1:Ev c l H e v H1) (h2:Ks c l H1 kr kv H2):Ks c l H (⟨some nm,e,np⟩ :: kr) ((nm,v) :: kv) H2:=⟨_root_.Mine.ks_cons h1.run h2.run⟩
theorem ev_call (hs:Plain (e :: r)) (hk:KwOk ks) (h1:Ev c l H (.Name nm np) f H1) (h2:Es c l H1 (e :: r) vs H2) (h3:Ks c l H2 ks kv H3) (hf:FnQ H3 f) (h4:Call c.g c.n c.k.hd H3 f vs kv v H4):Ev c l H (.Call (.Name nm np) (e :: r) ks pos) v H4:=⟨_root_.Mine.ev_call hs hk h1.run h2.run h3.run hf h4.run⟩
theorem evx_call (hs:Plain (e :: r)) (hk:KwOk ks) (h1:Ev c l H (.Name nm np) f H1) (h2:Es c l H1 (e :: r) vs H2) (h3:Ks c l H2 ks kv H3) (hf:FnQ H3 f) (h4:CallX c.g c.n c.k.hd H3 f vs kv i H4):EvX c l H (.Call (.Name nm np) (e :: r) ks pos) i H4:=⟨_root_.Mine.evx_call hs hk h1.run h2.run h3.run hf h4.run⟩
theorem ev_mfn (hb:Base e1) (hs:Plain (e :: r)) (hc:CallForm (e :: r)) (hp:(ap.endLine == pos.line)=true) (h1:Ev c l H e1 (.ob i) H1) (h:AttrQ H1 i nm f) (h2:Es c l H1 (e :: r) vs H2) (hf:FnQ H2 f) (h4:Call c.g c.n c.k.hd H2 f vs [] v H3) :
    Ev c l H (.Call (.Attribute e1 nm ap) (e :: r) [] pos) v H3:=⟨_root_.Mine.ev_mfn hb hs hc hp h1.run h h2.run hf h4.run⟩
end
section
variable {c:Cx} {g:Gx} {x y:Wd} {H H1 H2 H3 H4:AHeap} {s t:Shared} {A:Around} {l l1 l2:Loc} {env:Env} {e e1 e2 tg:Expr} {v v1 v2 f:AV} {nm:Str} {pos np ap:Pos} {Q:Post Unit} {E:Post Value} {es:List Expr} {vs:List AV} {n:Nat} {i:Nat} {xs:List AV} {k:K} {u:Value}
theorem as_name (h:Sn c l H nm v l1 H1):As c l H (.Name nm pos) v l1 H1:=⟨_root_.Mine.as_name h⟩
theorem as_attr_new {q:Str} {p:Arguments} {bd:Expr} {sc:Scope} {cl:List (Str × Nat)} (h1:Ev c l H e (.ob i) H1) (h:H1[i]? = some (.fn q p bd sc cl none)) (hn:attrNames.contains nm=true) :
    As c l H (.Attribute e nm pos) v l (H1.set i (.fn q p bd sc cl (some H1.length))++[.nsd [(nm,v)]]):=⟨_root_.Mine.as_attr_new h1.run h hn⟩
theorem as_attr_old {dI:Nat} {es:List (Str × AV)} {q:Str} {p:Arguments} {bd:Expr} {sc:Scope} {cl:List (Str × Nat)} (h1:Ev c l H e (.ob i) H1) (h:H1[i]? = some (.fn q p bd sc cl (some dI))) (h2:H1[dI]? = some (.nsd es)) (hn:attrNames.contains nm=true) :
    As c l H (.Attribute e nm pos) v l (H1.set dI (.nsd (putD nm v es))):=⟨_root_.Mine.as_attr_old h1.run h h2 hn⟩
theorem as_sub (h1:Ev c l H e1 v1 H1) (h2:Ev c l H1 e2 v2 H2) (h3:SetI c.g H2 v1 v2 v H3):As c l H (.Subscript e1 e2 pos) v l H3:=⟨_root_.Mine.as_sub h1.run h2.run h3⟩
theorem at_cons (he:∀ env,assignEach (tg :: es) env=(false,assign tg env) :: assignEach es env) (h1:As c l H tg v l1 H1) (h2:At c l1 H1 es vs l2 H2):At c l H (tg :: es) (v :: vs) l2 H2:=_root_.Mine.at_cons he h1.run h2
theorem as_tup {k:Nat} (h:H[i]? = some (.tup vs)) (h1:At c l H es vs l1 H1):As c l H (.Tuple es k pos) (.ob i) l1 H1:=⟨_root_.Mine.as_tup h h1⟩
end
section
variable {c:Cx} {g:Gx} {x y:Wd} {H H1 H2 H3 H4:AHeap} {s t:Shared} {A:Around} {l l1 l2 l3:Loc} {env:Env} {Q:Post Flow} {E:Post Value} {e e1 e2 tg:Expr} {v v1 v2:AV} {nm:Str} {pos np ap:Pos} {i:Nat} {b o:List Stmt} {st:Stmt} {r:SOut} {xs vs:List AV} {es:List Expr}
theorem st_expr (hs:∀ line env,swapsWith e none line env=pure false) (h:Ev c l H e v H1):St c l H (.Expr e pos) ⟨.next,l,H1⟩:=⟨_root_.Mine.st_expr hs h.run⟩
theorem stx_expr (hs:∀ line env,swapsWith e none line env=pure false) (h:EvX c l H e i H1):St c l H (.Expr e pos) ⟨.exc i,l,H1⟩:=⟨_root_.Mine.stx_expr hs h.run⟩
theorem st_ret (h:Ev c l H e v H1):St c l H (.Return (some e) pos) ⟨.ret v,l,H1⟩:=⟨_root_.Mine.st_ret h.run⟩
theorem st_if {q:Bool} (h:Ts c l H e q H1) (h2:Ex c l H1 (if q=true then b else o) r):St c l H (.If e b o pos) r:=⟨_root_.Mine.st_if h.run h2.run⟩
theorem ex_nil:Ex c l H [] ⟨.next,l,H⟩:=⟨_root_.Mine.ex_nil⟩
theorem ex_cons (h1:St c l H st ⟨.next,l1,H1⟩) (h2:Ex c l1 H1 b r):Ex c l H (st :: b) r:=⟨_root_.Mine.ex_cons h1.run h2.run⟩
theorem ex_ret (h1:St c l H st ⟨.ret v,l1,H1⟩):Ex c l H (st :: b) ⟨.ret v,l1,H1⟩:=⟨_root_.Mine.ex_ret h1.run⟩
theorem ex_exc (h1:St c l H st ⟨.exc i,l1,H1⟩):Ex c l H (st :: b) ⟨.exc i,l1,H1⟩:=⟨_root_.Mine.ex_exc h1.run⟩
theorem ex_weak (hl:∀ nm v,l2.lookup nm=some v→l1.lookup nm=some v) (h:Ex c l H b ⟨.next,l1,H1⟩):Ex c l H b ⟨.next,l2,H1⟩:=⟨_root_.Mine.ex_weak hl h.run⟩
theorem st_assign (h0:swapsWithSole [tg] e pos.line (envS c.k.scope)=pure false) (h1:swappedStores [tg] e (envS c.k.scope)=pure none) (ho:One tg) (h2:Ev c l H e v H1) (h3:As c l H1 tg v l1 H2):St c l H (.Assign [tg] e pos) ⟨.next,l1,H2⟩:=⟨_root_.Mine.st_assign h0 h1 ho h2.run h3.run⟩
theorem stx_assign (h0:swapsWithSole [tg] e pos.line (envS c.k.scope)=pure false) (h2:EvX c l H e i H1):St c l H (.Assign [tg] e pos) ⟨.exc i,l,H1⟩:=⟨_root_.Mine.stx_assign h0 h2.run⟩
theorem st_swap {names:List Str} (h0:swapsWithSole [tg] e pos.line (envS c.k.scope)=pure false) (h1:swappedStores [tg] e (envS c.k.scope)=pure (some names)) (h2:Ev c l H e (.ob i) H1) (h:H1[i]? = some (.tup xs)) (hl:xs.length=names.length) (h3:Sns c l H1 names.reverse xs.reverse l1 H2) :
    St c l H (.Assign [tg] e pos) ⟨.next,l1,H2⟩:=⟨_root_.Mine.st_swap h0 h1 h2.run h hl h3⟩
theorem st_aug {a b':Int} (hk:locQ c.k nm=true) (hl:l.lookup nm=some (.int a)) (h2:Ev c l H e (.int b') H1):St c l H (.AugAssign (.Name nm np) .Add e pos) ⟨.next,upd nm (.int (a+b')) l,H1⟩:=⟨_root_.Mine.st_aug hk hl h2.run⟩
theorem st_augsub {a b' k:Int} (hi:∀ ov iv new,augStore e2 ov iv new=(do holding [new,ov,iv] (setItem ov iv new);release [new,ov,iv] [];pure .next)) (h1:Ev c l H e1 (.ob i) H1) (h2:Ev c l H1 e2 (.int k) H2) (hx:H2[i]? = some (.list xs)) (k0:0≤k) (k1:k < 2 ^ 63) (ex:xs[k.toNat]? = some (.int a))
    (h3:Ev c l H2 e (.int b') H3) (h4:SetI c.g H3 (.ob i) (.int k) (.int (a+b')) H4):St c l H (.AugAssign (.Subscript e1 e2 np) .Add e pos) ⟨.next,l,H4⟩:=⟨_root_.Mine.st_augsub hi h1.run h2.run hx k0 k1 ex h3.run h4⟩
end
section
variable {c:Cx} {g:Gx} {x y:Wd} {H H1 H2 H3 H4:AHeap} {s t:Shared} {A:Around} {l l1 l2 l3:Loc} {env:Env} {Q:Post Flow} {E:Post Value} {e e1 e2 tg:Expr} {v v1 v2:AV} {nm k:Str} {pos np ap kp mp cp:Pos} {i q:Nat} {b o:List Stmt} {st:Stmt} {r:SOut} {m:Str}
theorem st_raise (hk:globQ c.k "ValueError" = true) (hd:c.k.hd=false):St c l H (.Raise (some (.Call (.Name "ValueError" kp) [.Constant (.str m) q mp] [] cp)) none pos) ⟨.exc H.length,l,H++[.exc m]⟩:=⟨_root_.Mine.st_raise hk hd⟩
theorem st_try_ok {hs:List ExceptHandler} {h0:ExceptHandler} (h:Ex c l H b ⟨.next,l1,H1⟩):St c l H (.Try b (h0 :: hs) [] [] pos) ⟨.next,l1,H1⟩:=⟨_root_.Mine.st_try_ok h.run⟩
theorem st_try (hk:globQ c.held.k "ValueError" = true) (hl:c.k.scope.names.lookup nm=some .local) (h:Ex c l H b ⟨.exc i,l1,H1⟩) (h2:Ex c.held (upd nm (.ob i) l1) H1 (st :: o) ⟨.next,l2,H2⟩) :
    St c l H (.Try b [.ExceptHandler (some (.Name "ValueError" kp)) (some nm) (st :: o) np] [] [] pos) ⟨.next,l2.filter fun p=>p.1 != nm,H2⟩:=⟨_root_.Mine.st_try hk hl h.run h2.run⟩
end
section
variable {c:Cx} {g:Gx} {x x₀ y:Wd} {H H1 H2 H3 H4:AHeap} {s s₀ t:Shared} {A:Around} {l l1 l2 l3:Loc} {env:Env} {E:Post Value} {e e1 e2 tg:Expr} {v v1 v2:AV} {nm:Str} {pos np ap:Pos} {i j k:Nat} {b o:List Stmt} {r:SOut} {xs vs:List AV} {es:List Expr} {it it':AIter} {u:Value} {I:List Addr} {h h':Heap}
theorem turn_list (h:H[i]? = some (.list xs)) (e:xs[k]? = some v) (hg:Go c.g tg "list_iterator") (as:As c l H tg v l1 H1):Turn c l H tg (.list i k) l1 H1 (.list i (k+1)):=⟨_root_.Mine.turn_list h e hg as.run⟩
theorem turn_tup (h:H[i]? = some (.tup xs)) (e:xs[k]? = some v) (hg:Go c.g tg "tuple_iterator") (as:As c l H tg v l1 H1):Turn c l H tg (.tup i k) l1 H1 (.tup i (k+1)):=⟨_root_.Mine.turn_tup h e hg as.run⟩
theorem turn_range {cur sp:Int} {m:Nat} (hg:Go c.g tg "range_iterator") (as:As c l H tg (.int cur) l1 H1):Turn c l H tg (.range cur sp (m+1)) l1 H1 (.range (cur+sp) sp m):=⟨_root_.Mine.turn_range hg as.run⟩
theorem turn_bytes {n:Int} {ns:List Int} (hg:Go c.g tg "bytes_iterator") (as:As c l H tg (.int n) l1 H1):Turn c l H tg (.bytes (n :: ns)) l1 H1 (.bytes ns):=⟨_root_.Mine.turn_bytes hg as.run⟩
theorem turn_enum {ta tb:Expr} {ti:Nat} {tp:Pos} (h:H[i]? = some (.list xs)) (e:xs[k]? = some v) (as:At c l H [ta,tb] [.int (k:Nat),v] l1 H1):Turn c l H (.Tuple [ta,tb] ti tp) (.enum i k) l1 H1 (.enum i (k+1)):=⟨_root_.Mine.turn_enum h e as⟩
end
section
variable {c:Cx} {g:Gx} {x x₀ y:Wd} {H H1 H2 H3 H4:AHeap} {s s₀ t:Shared} {A:Around} {l l1 l2 l3:Loc} {env:Env} {E:Post Value} {e e0 e1 e2 tg:Expr} {v v1 v2:AV} {nm:Str} {pos np ap:Pos} {i j k:Nat} {b o:List Stmt} {r:SOut} {xs vs:List AV} {es:List Expr} {it it':AIter} {u:Value} {I:List Addr} {h h':Heap}
theorem wh_step (h:Ts c l H e true H1) (hb:Ex c l H1 b ⟨.next,l1,H2⟩) (hw:Wh c l1 H2 e b l2 H3):Wh c l H e b l2 H3:=⟨_root_.Mine.wh_step h.run hb.run hw.run⟩
theorem wh_sub (hl:∀ nm v,l1.lookup nm=some v→l.lookup nm=some v) (h:Wh c l1 H e b l2 H1):Wh c l H e b l2 H1:=⟨_root_.Mine.wh_sub hl h.run⟩
theorem st_while (h:Wh c l H e b l1 H1):St c l H (.While e b [] pos) ⟨.next,l1,H1⟩:=⟨_root_.Mine.st_while h.run⟩
theorem fr_end (h:End c H it) (ho:Ex c l H o r):Fr c l H tg it b o r:=⟨_root_.Mine.fr_end h ho.run⟩
theorem fr_step (h:Turn c l H tg it l1 H1 it') (hb:Ex c l1 H1 b ⟨.next,l2,H2⟩) (hf:Fr c l2 H2 tg it' b o r):Fr c l H tg it b o r:=⟨_root_.Mine.fr_step h.run hb.run hf.run⟩
theorem fr_ret (h:Turn c l H tg it l1 H1 it') (hb:Ex c l1 H1 b ⟨.ret v,l2,H2⟩):Fr c l H tg it b o ⟨.ret v,l2,H2⟩:=⟨_root_.Mine.fr_ret h.run hb.run⟩
theorem fr_sub (hl:∀ nm v,l1.lookup nm=some v→l.lookup nm=some v) (h:Fr c l1 H tg it b o r):Fr c l H tg it b o r:=⟨_root_.Mine.fr_sub hl h.run⟩
theorem st_for (hs:∀ env v,foldedSetIterable e env v=pure v) (hc:c.k.hd=false) (h:It c l H e it H1) (hf:Fr c l H1 tg it b o r):St c l H (.For tg e b o pos) r:=⟨_root_.Mine.st_for hs hc h.run hf.run⟩
theorem it_list (h:Ev c l H e (.ob i) H1) (hx:H1[i]? = some (.list xs)):It c l H e (.list i 0) H1:=⟨_root_.Mine.it_list h.run hx⟩
theorem it_tup (h:Ev c l H e (.ob i) H1) (hx:H1[i]? = some (.tup xs)):It c l H e (.tup i 0) H1:=⟨_root_.Mine.it_tup h.run hx⟩
theorem it_bytes {ns:List Int} (h:Ev c l H e (.bytes ns) H1):It c l H e (.bytes ns) H1:=⟨_root_.Mine.it_bytes h.run⟩
theorem it_enum (hs:Plain [e]) (hk:globQ c.k "enumerate" = true) (h:Ev c l H e (.ob i) H1) (hx:H1[i]? = some (.list xs)):It c l H (.Call (.Name "enumerate" np) [e] [] pos) (.enum i 0) H1:=⟨_root_.Mine.it_enum hs hk h.run hx⟩
theorem it_range1 {b:Int} (hs:Plain [e]) (hk:globQ c.k "range" = true) (h:Ev c l H e (.int b) H1) (hb:lim3 0 b):It c l H (.Call (.Name "range" np) [e] [] pos) (.range 0 1 (rangeN 0 b 1)) H1:=⟨_root_.Mine.it_range1 hs hk h.run hb⟩
theorem it_range2 {a b:Int} (hs:Plain [e1,e2]) (hk:globQ c.k "range" = true) (h1:Ev c l H e1 (.int a) H1) (h2:Ev c l H1 e2 (.int b) H2) (hb:lim3 a b):It c l H (.Call (.Name "range" np) [e1,e2] [] pos) (.range a 1 (rangeN a b 1)) H2:=⟨_root_.Mine.it_range2 hs hk h1.run h2.run hb⟩
theorem it_range3 {a b st:Int} (hs:Plain [e0,e1,e2]) (hk:globQ c.k "range" = true) (h0:Ev c l H e0 (.int a) H1) (h1:Ev c l H1 e1 (.int b) H2) (h2:Ev c l H2 e2 (.int st) H3) (hb:lim3 a b) (hp:0 < st) (hq:st < 1000):It c l H (.Call (.Name "range" np) [e0,e1,e2] [] pos) (.range a st (rangeN a b st)) H3:=⟨_root_.Mine.it_range3 hs hk h0.run h1.run h2.run hb hp hq⟩
end
section
variable {c:Cx} {g:Gx} {x x₀ y:Wd} {H H1 H2 H3 H4:AHeap} {s s₀ t:Shared} {A:Around} {l l1 l2 l3:Loc} {env:Env} {d:FD} {args:List AV} {kws binds:List (Str × AV)} {v:AV} {k:K} {i n:Nat} {hd:Bool} {nm qual:Str} {E:Post Value} {Q:Post Value} {r:SOut} {us:List Value} {ks vb:List (Str × Value)}
theorem call_ret (hm:d∈defTab) (hb:Bd g d args kws binds) (bs:Bs g (kOf d hd H.length) [] (H++cellsN d.scope.names) binds l1 H1) (hx:Ex ⟨g,n,kOf d hd H.length⟩ l1 H1 d.body ⟨.ret v,l2,H2⟩):Call g (n+1) hd H (.top d.addr) args kws v H2:=⟨_root_.Mine.call_ret hm hb bs hx.run⟩
theorem call_next (hm:d∈defTab) (hb:Bd g d args kws binds) (bs:Bs g (kOf d hd H.length) [] (H++cellsN d.scope.names) binds l1 H1) (hx:Ex ⟨g,n,kOf d hd H.length⟩ l1 H1 d.body ⟨.next,l2,H2⟩):Call g (n+1) hd H (.top d.addr) args kws .none H2:=⟨_root_.Mine.call_next hm hb bs hx.run⟩
theorem call_exc (hm:d∈defTab) (hb:Bd g d args kws binds) (bs:Bs g (kOf d hd H.length) [] (H++cellsN d.scope.names) binds l1 H1) (hx:Ex ⟨g,n,kOf d hd H.length⟩ l1 H1 d.body ⟨.exc i,l2,H2⟩):CallX g (n+1) hd H (.top d.addr) args kws i H2:=⟨_root_.Mine.call_exc hm hb bs hx.run⟩
end
section
variable {c:Cx} {g:Gx} {x x₀ y:Wd} {H H1 H2 H3 H4:AHeap} {s s₀ t:Shared} {A:Around} {l l1 l2 l3:Loc} {env:Env} {args:List AV} {kws binds:List (Str × AV)} {v w:AV} {k:K} {i n:Nat} {hd:Bool} {nm qual:Str} {E:Post Value} {Q:Post Value} {body:Expr} {params:Arguments} {scope:Scope} {clos cl:List (Str × Nat)} {at_:Option Nat}
  {P P' cc:Addr} {h':Heap} {ps:Array Value} {pos:Pos} {q q':Str} {ρ:List Addr}
theorem call_lam (h:H[i]? = some (.fn qual params body scope clos at_)) (hk:scope.kind = .function∧scope.isCoroutine=false∧scope.isGenerator=false) (hb:LamBind qual params body scope nm)
    (bs:Bs g (kL qual scope clos hd H.length) [] (H++cellsN scope.names) [(nm,v)] l1 H1) (hx:Ev ⟨g,n,kL qual scope clos hd H.length⟩ l1 H1 body w H2):Call g (n+1) hd H (.ob i) [v] [] w H2:=⟨_root_.Mine.call_lam h hk hb bs hx.run⟩
theorem ev_lambda (hl:c.k.lam=true) (hd:∀ env,defaultsOf params env=([],[])) (hcl:closA scope.names c.k.cells []=some cl):Ev c l H (.Lambda params body scope pos) (.ob H.length) (H++[.fn (c.k.qual ++ "<lambda>") params body scope cl none]):=⟨_root_.Mine.ev_lambda hl hd hcl⟩
end
section
variable {c:Cx} {g:Gx} {x y:Wd} {H H':AHeap} {s t:Shared} {A:Around} {v a b f:AV} {n:Nat} {hd:Bool} {i:Nat} {xs:List AV} {l:List Int} {m:Int} {vs:List Value} {fv:Value} {w:Value}
theorem c_len (h:H[i]? = some (.list xs)) (hl:xs.length < 1000):Call g n hd H (.bi "len") [.ob i] [] (.int xs.length) H:=⟨_root_.Mine.c_len h hl⟩
theorem c_lenb {xs:List Int} (hl:xs.length < 1000):Call g n hd H (.bi "len") [.bytes xs] [] (.int xs.length) H:=⟨_root_.Mine.c_lenb hl⟩
theorem c_isb {xs:List Int}:Call g n hd H (.bi "isinstance") [.bytes xs,.ty "bytes"] [] (.bool true) H:=⟨_root_.Mine.c_isb⟩
theorem c_list (h:H[i]? = some (.list xs)) (hl:xs.length≤1000):Call g n hd H (.ty "list") [.ob i] [] (.ob H.length) (H++[.list xs]):=⟨_root_.Mine.c_list h hl⟩
theorem c_bytes (h:H[i]? = some (.list (l.map .int))) (hl:l.length≤1000) (hb:∀ n∈l,0≤n∧n < 256):Call g n false H (.ty "bytes") [.ob i] [] (.bytes l) H:=⟨_root_.Mine.c_bytes h hl hb⟩
theorem c_str {q:Str} (h:H[i]? = some (.exc q)):Call g n hd H (.ty "str") [.ob i] [] (.str q) H:=⟨_root_.Mine.c_str h⟩
theorem c_max (h:H[i]? = some (.list (l.map .int))) (hm:m∈l) (hle:∀ q∈l,q≤m):Call g n false H (.bi "max") [.ob i] [] (.int m) H:=⟨_root_.Mine.c_max h hm hle⟩
theorem c_min (h:H[i]? = some (.list (l.map .int))) (hm:m∈l) (hle:∀ q∈l,m≤q):Call g n false H (.bi "min") [.ob i] [] (.int m) H:=⟨_root_.Mine.c_min h hm hle⟩
end
section
variable {prog:Program} {w:World} {x:Wd} {H:AHeap} {s:Shared} {A:Around} {n:Nat} {hd:Bool} {E:Value→Shared→Prop} {g:Gx}
theorem c_barr {m:Int} (h0:0≤m) (h1:m < 100):Call g n hd H (.ty "bytearray") [.int m] [] (.ob H.length) (H++[.barr (List.replicate m.toNat 0)]):=⟨_root_.Mine.c_barr h0 h1⟩
end
theorem c_bba {g:Gx} {n:Nat} {hd:Bool} {H:AHeap} {i:Nat} {xs:List Int} (h:H[i]? = some (.barr xs)) (hl:xs.length≤1000):Call g n hd H (.ty "bytes") [.ob i] [] (.bytes xs) H:=⟨_root_.Mine.c_bba h hl⟩
section
variable {g:Gx} {x:Wd} {H:AHeap} {s:Shared} {A:Around} {n:Nat} {hd:Bool} {i:Nat} {v:AV} {xs:List AV} {es:List (Str × AV)}
theorem c_has_list (h:H[i]? = some (.list xs)):Call g n hd H (.bi "hasattr") [.ob i,.str "__getitem__"] [] (.bool true) H:=⟨_root_.Mine.c_has_list h⟩
theorem c_has_fn (h:AttrQ H i "tag" v):Call g n hd H (.bi "hasattr") [.ob i,.str "tag"] [] (.bool true) H:=⟨_root_.Mine.c_has_fn h⟩
theorem c_has_lno (h:H[i]? = some (.list xs)):Call g n false H (.bi "hasattr") [.ob i,.str "tag"] [] (.bool false) H:=⟨_root_.Mine.c_has_lno h⟩
theorem c_has_dno (h:H[i]? = some (.dict es)):Call g n false H (.bi "hasattr") [.ob i,.str "tag"] [] (.bool false) H:=⟨_root_.Mine.c_has_dno h⟩
end
section
variable {g:Gx} {x y x₀:Wd} {H H₀:AHeap} {s t s₀:Shared} {A:Around} {n:Nat} {hd:Bool} {E:Post Value} {D kS:Addr} {xs:List AV} {ks:List Int} {f:AV} {vs us:List Value} {k e1:Nat}
theorem c_sorted {i j:Nat} (h:H[i]? = some (.list xs)) (h5:xs.length=5) (kk:Ky g n hd H (.ob j) xs ks):Call g (n+1) hd H (.bi "sorted") [.ob i] [("key",.ob j)] (.ob (H.length+1)) (H++[.list [],.list (sortK ks xs)]):=⟨_root_.Mine.c_sorted h h5 kk⟩
end
section
variable {c:Cx} {g:Gx} {x y:Wd} {H H1 H2:AHeap} {s t:Shared} {A:Around} {l:Loc} {env:Env} {n:Nat} {hd:Bool} {E:Post Value} {es fs:List (Str × AV)} {pos pa pb:Pos}
theorem ev_dict0:Ev c l H (.Dict [] [] pos) (.ob H.length) (H++[.dict []]):=⟨_root_.Mine.ev_dict0⟩
theorem ev_dict1 {k:Str} {i:Int} {ki ii:Nat} {kp ip:Pos}:Ev c l H (.Dict [some (.Constant (.str k) ki kp)] [.Constant (.int i) ii ip] pos) (.ob H.length) (H++[.dict [(k,.int i)]]):=⟨_root_.Mine.ev_dict1⟩
theorem ev_dict2 {ka kb:Str} {i j:Nat} (ha:locQ c.k ka=true) (ea:l.lookup ka=some (.ob i)) (hb:locQ c.k kb=true) (eb:l.lookup kb=some (.ob j)) (h1:H[i]? = some (.dict es)) (h2:H[j]? = some (.dict fs)) (hl:es.length+fs.length≤1000) :
    Ev c l H (.Dict [none,none] [.Name ka pa,.Name kb pb] pos) (.ob H.length) (H++[.dict (mergeD es fs)]):=⟨_root_.Mine.ev_dict2 ha ea hb eb h1 h2 hl⟩
end
section
variable {g:Gx} {x:Wd} {H H1 H2:AHeap} {s:Shared} {A:Around} {n:Nat} {hd:Bool} {p t a v:AV} {kws:List (Str × AV)} {l1 l2:Loc}
theorem call_sub0 (bs:Bs g (kOf dSubEl hd (H++[AObj.dict []]).length) [] (H++[AObj.dict []]++cellsN dSubEl.scope.names) (subA H p t a) l1 H1) (hx:Ex ⟨g,n,kOf dSubEl hd (H++[AObj.dict []]).length⟩ l1 H1 dSubEl.body ⟨.ret v,l2,H2⟩):Call g (n+1) hd H (.top 122) [p,t,a] [] v H2:=⟨_root_.Mine.call_sub0 bs hx.run⟩
theorem call_sub2 {b c:AV} (bs:Bs g (kOf dSubEl hd (H++[AObj.dict [("bend",b),("name",c)]]).length) [] (H++[AObj.dict [("bend",b),("name",c)]]++cellsN dSubEl.scope.names) (subA H p t a) l1 H1) (hx:Ex ⟨g,n,kOf dSubEl hd (H++[AObj.dict [("bend",b),("name",c)]]).length⟩ l1 H1 dSubEl.body ⟨.ret v,l2,H2⟩):Call g (n+1) hd H (.top 122) [p,t,a] [("bend",b),("name",c)] v H2:=⟨_root_.Mine.call_sub2 bs hx.run⟩
end
section
variable {c:Cx} {g:Gx} {x x₀ y:Wd} {H H1 H2 H3 H4 H':AHeap} {s s₀ t:Shared} {A:Around} {l l1 l2 l3 l':Loc} {env:Env} {E:Post Value} {elt e:Expr} {gens gs:List Comprehension} {scope:Scope} {pos:Pos} {d n acc:Nat} {gc g2:Comprehension} {it it' it2:AIter} {u:Value} {a:Addr} {v:AV} {xs:List AV} {ifs:List Expr} {q:Bool}
theorem fs_nil:Fs c l H [] true H:=⟨_root_.Mine.fs_nil⟩
theorem fs_one (h:Ts c l H e q H1):Fs c l H [e] q H1:=⟨_root_.Mine.fs_one h.run⟩
theorem ge_end {gr:List Comprehension} (ha:Sync gc) (h:End c H it):Ge c l H elt (gc :: gr) it acc l H:=⟨_root_.Mine.ge_end ha h⟩
theorem ge_skip {gr:List Comprehension} (ha:Sync gc) (h:Turn c l H gc.target it l1 H1 it') (hf:Fs c l1 H1 gc.ifs false H2) (hr:Ge c l1 H2 elt (gc :: gr) it' acc l' H'):Ge c l H elt (gc :: gr) it acc l' H':=⟨_root_.Mine.ge_skip ha h.run hf.run hr.run⟩
theorem ge_put (ha:Sync gc) (h:Turn c l H gc.target it l1 H1 it') (hf:Fs c l1 H1 gc.ifs true H2) (hv:Ev c l1 H2 elt v H3) (hx:H3[acc]? = some (.list xs)) (hl:xs.length≤1000) (hr:Ge c l1 (H3.set acc (.list (xs++[v]))) elt [gc] it' acc l' H'):Ge c l H elt [gc] it acc l' H':=⟨_root_.Mine.ge_put ha h.run hf.run hv.run hx hl hr.run⟩
theorem ge_sub {gr:List Comprehension} (ha:Sync gc) (h:Turn c l H gc.target it l1 H1 it') (hf:Fs c l1 H1 gc.ifs true H2) (ha2:Sync g2) (hs:∀ env v,foldedSetIterable g2.iter env v=pure v) (hi:It c l1 H2 g2.iter it2 H3) (hc2:compIt it2=true)
    (h2:Ge c l1 H3 elt (g2 :: gr) it2 acc l2 H4) (hr:Ge c l2 H4 elt (gc :: g2 :: gr) it' acc l' H'):Ge c l H elt (gc :: g2 :: gr) it acc l' H':=⟨_root_.Mine.ge_sub ha h.run hf.run ha2 hs hi.run hc2 h2.run hr.run⟩
theorem ge_sub_loc {gr:List Comprehension} (hl:∀ nm v,l1.lookup nm=some v→l.lookup nm=some v) (h:Ge c l1 H elt gs it acc l' H'):Ge c l H elt gs it acc l' H':=⟨_root_.Mine.ge_sub_loc hl h.run (gr:=[])⟩
end
section
variable {c:Cx} {g:Gx} {x x₀ y:Wd} {H H1 H2 H3 H4 H':AHeap} {s s₀ t:Shared} {A:Around} {l l1 l2 l3 l':Loc} {env:Env} {E:Post Value} {elt e tg:Expr} {gens gs gr:List Comprehension} {scope:Scope} {pos:Pos} {d n acc:Nat} {gc g2:Comprehension} {it it' it2:AIter} {u:Value} {a:Addr} {v:AV} {xs:List AV} {ifs:List Expr} {q:Bool} {cl:List (Str × Nat)} {k:K}
theorem ev_comp (h:Lc c l H elt gens scope n H'):Ev c l H (.ListComp elt gens scope pos) (.ob n) H':=⟨_root_.Mine.ev_comp h⟩
theorem st_assignC (h0:swapsWithSole [tg] (.ListComp elt gens scope pos) pos'.line (envS c.k.scope)=pure true) (ho:One tg) (h:Lc c l H elt gens scope n H1) (h3:As c l H1 tg (.ob n) l1 H2):St c l H (.Assign [tg] (.ListComp elt gens scope pos) pos') ⟨.next,l1,H2⟩:=⟨_root_.Mine.st_assignC h0 ho h h3.run⟩
end
section
variable {c:Cx} {g:Gx} {x:Wd} {H:AHeap} {l:Loc} {a b:AV} {r:Bool} {nk nl:Str} {p1 p2 p3 p4 p5 p6:Pos} {i j:Nat} {xs ys:List AV}
theorem al_same (h1:locQ c.k nk=true) (e1:l.lookup nk=some a) (h2:locQ c.k nl=true) (e2:l.lookup nl=some b) (h:SameQ c.g H a b r) :
    Al c l H .Or [.Compare (.Name nk p1) [.Is] [.Name nl p2] p3,.Compare (.Name nk p4) [.Eq] [.Name nl p5] p6] r H:=⟨_root_.Mine.al_same h1 e1 h2 e2 h⟩
end
section
variable {c:Cx} {H H1:AHeap} {l l1:Loc} {e:Expr} {b:List Stmt} {q:Bool}
theorem wh_stop (hl:∀ nm v,l1.lookup nm=some v→l.lookup nm=some v) (h:Ts c l H e q H1) (hq:q=false):Wh c l H e b l1 H1:=⟨_root_.Mine.wh_stop hl h.run hq⟩
end
section
variable {c:Cx} {g:Gx} {l l':Loc} {H H1 H':AHeap} {elt:Expr} {gens gr:List Comprehension} {gc:Comprehension} {scope:Scope} {n:Nat} {hd:Bool} {it:AIter} {cl:List (Str × Nat)} {f v:AV} {vs:List AV} {k:Int} {ks:List Int}
theorem lc_mk (h:gens=gc :: gr) (h1:CompOk scope) (h2:Sync gc) (h3:∀ env v,foldedSetIterable gc.iter env v=pure v) (h4:c.k.hd=false) (h5:closA scope.names c.k.cells []=some cl) (h6:It c l H gc.iter it H1) (h7:compIt it=true) (h8:n=H1.length)
    (h9:Ge ⟨c.g,c.n,kC c.k scope cl⟩ [] (H1++[.list []]) elt gens it H1.length l' H'):Lc c l H elt gens scope n H':=_root_.Mine.Lc.mk h h1 h2 h3 h4 h5 h6.run h7 h8 h9.run
theorem ky_cons (h:∀ ys:List AV,Call g n hd (H++[.list ys]) f [v] [] (.int k) (H++[.list ys])) (h2:Ky g n hd H f vs ks):Ky g n hd H f (v :: vs) (k :: ks):=.cons (fun ys=>(h ys).run) h2
end
end Mine.S
namespace Mine.S
open PySem PySem.Calls PyProof.Rows PySem.W
section
variable {c:Cx} {g:Gx} {H H1 H2:AHeap} {l l1 l2:Loc} {e e1 e2:Expr} {v:AV} {pos:Pos} {b o:List Stmt} {r:SOut} {q q':Bool} {i:Nat} {xs:List AV}
theorem ts_eq (h:Ts c l H e q H1) (w:q=q'):Ts c l H e q' H1:=w ▸ h
theorem st_t (h:Ts c l H e q H1) (w:q=true) (h2:Ex c l H1 b r):St c l H (.If e b o pos) r:=st_if h (by rw [w];exact h2)
theorem st_f (h:Ts c l H e q H1) (w:q=false) (h2:Ex c l H1 o r):St c l H (.If e b o pos) r:=st_if h (by rw [w];exact h2)
theorem half (lo hi:Nat):((lo:Int)+(hi:Int)).fdiv 2=(((lo+hi) / 2:Nat):Int):=by
  rw [Int.fdiv_eq_ediv_of_nonneg _ (by decide)];rfl
theorem b_half {lo hi:Nat}:Bin g .FloorDiv (.int ((lo:Int)+(hi:Int))) (.int 2) H (.int ((lo+hi) / 2:Nat)) H:=half lo hi ▸ b_div (by decide)
theorem b_mod2 {m:Nat}:Bin g .Mod (.int (m:Nat)) (.int 2) H (.int ((m % 2:Nat):Int)) H:=(Int.ofNat_fmod m 2).symm ▸ b_mod (by decide)
theorem ev_if_t (h:Ts c l H e q H1) (w:q=true) (h2:Ev c l H1 e1 v H2):Ev c l H (.IfExp e e1 e2 pos) v H2:=ev_ifexp h (by rw [w];exact h2)
theorem ev_if_f (h:Ts c l H e q H1) (w:q=false) (h2:Ev c l H1 e2 v H2):Ev c l H (.IfExp e e1 e2 pos) v H2:=ev_ifexp h (by rw [w];exact h2)
theorem b_div2 {m:Nat}:Bin g .FloorDiv (.int (m:Nat)) (.int 2) H (.int ((m / 2:Nat):Int)) H:=(show ((m:Nat):Int).fdiv 2=((m / 2:Nat):Int) from Int.fdiv_eq_ediv_of_nonneg _ (by decide)) ▸ b_div (by decide)
theorem b_half6 {m:Nat}:Bin g .FloorDiv (.int ((m:Int)+6)) (.int 2) H (.int (((m+6) / 2:Nat):Int)) H:=half m 6 ▸ b_div (by decide)
theorem b_succ {m:Nat}:Bin g .Add (.int (m:Nat)) (.int 1) H (.int ((m+1:Nat):Int)) H:=b_add
theorem i_nat {k:Nat} (h:H[i]? = some (.list xs)) (hl:xs.length≤1000) (e:xs[k]? = some v):Idx g H (.ob i) (.int (k:Nat)) v:=
  i_list h (Int.natCast_nonneg _) (Int.lt_trans (Int.ofNat_lt.mpr (Nat.lt_of_lt_of_le (List.getElem?_eq_some_iff.mp e).1 hl)) (by decide)) e
theorem ev_bi {nm:Str} {i:String} (h:globQ c.k nm=true) (e:bglob.lookup nm=some (true,i)):Ev c l H (.Name nm pos) (.bi i) H:=ev_blt h e
theorem ev_ty {nm:Str} {i:String} (h:globQ c.k nm=true) (e:bglob.lookup nm=some (false,i)):Ev c l H (.Name nm pos) (.ty i) H:=ev_blt h e
theorem keep1 {l:Loc} {k n:Str} {u v:AV} (e:l.lookup k=some u):([(k,u)]:Loc).lookup n=some v→l.lookup n=some v:=by
  rw [look_cons]
  by_cases h:n=k
  · rw [if_pos h,h];exact fun q=>q ▸ e
  · rw [if_neg h];exact fun q=>nomatch q
end
section
variable {H X E:AHeap} {i j k a b:Nat} {o o':AObj}
theorem getOld (h:H[i]? = some o):(H++E)[i]? = some o:=(List.getElem?_append_left (List.getElem?_eq_some_iff.mp h).1).trans h
theorem getK (e:E[k]? = some o):(H++E)[H.length+k]? = some o:=by
  rw [List.getElem?_append_right (Nat.le_add_right _ _),Nat.add_sub_cancel_left];exact e
theorem getLE:(H++(E++[o]))[H.length+E.length]? = some o:=getK List.getElem?_concat_length
theorem getL1:(H++(E++[o',o]))[H.length+(E.length+1)]? = some o:=getK (getK rfl)
theorem getOldE {F:AHeap} (h:(H++E)[i]? = some o):(H++(E++F))[i]? = some o:=List.append_assoc H E F ▸ getOld h
theorem get0 (e:E[0]? = some o):(H++E)[H.length]? = some o:=getK (k:=0) e
theorem getSame (h:H[i]? = some o'):(H.set i o)[i]? = some o:=List.getElem?_set_self (List.getElem?_eq_some_iff.mp h).1
theorem getNe (n:i≠j) (h:H[j]? = some o):(H.set i o')[j]? = some o:=(List.getElem?_set_ne n).trans h
theorem ne_add (h:(a == b)=false):i+a≠i+b:=fun e=>ne_of_beq_false h (Nat.add_left_cancel e)
theorem ne_add0 (h:(a == 0)=false):i+a≠i:=fun e=>ne_of_beq_false h (Nat.add_left_cancel (n:=i) (k:=0) e)
noncomputable def tagO:AObj→Nat
  | .list _=>0 | .tup _=>1 | .dict _=>2 | .cell _=>3 | .fn ..=>4 | .barr _=>5 | .exc _=>6 | .nsd _=>7 | .fix ..=>8
theorem ne_obj (h:H[i]? = some o) (h':H[j]? = some o') (n:(tagO o == tagO o')=false):i≠j:=fun e=>ne_of_beq_false n (congrArg tagO (Option.some.inj (h.symm.trans (e ▸ h'))))
theorem getNeO {o1:AObj} (h:H[i]? = some o1) (hj:H[j]? = some o) (n:(tagO o1 == tagO o)=false):(H.set i o')[j]? = some o:=getNe (ne_obj h hj n) hj
end
section
variable {c:Cx} {H:AHeap} {l:Loc} {i:Nat}
theorem sn_here {nm:Str} {v:AV} (h:c.k.scope.names.lookup nm=some .local):Sn c l H nm v (upd nm v l) H:=SnB.up (sn_loc h)
theorem sn_cellG {nm:Str} {v:AV} {v0:Option AV} (h:c.k.scope.names.lookup nm=some .cell) (hc:c.k.cells.lookup nm=some i) (hv:H[i]? = some (.cell v0)):Sn c l H nm v l (H.set i (.cell (some v))):=SnB.up (sn_cell h hc hv)
end
section
variable {c:Cx} {H H1:AHeap} {l l1:Loc} {b b':List Stmt} {st:Stmt} {r:SOut} {e e1 tg:Expr} {q:Bool} {nm:Str} {pos:Pos} {ops:List CmpOp} {es rs:List Expr} {v:AV} {k:Nat}
theorem ex_open (h:b=st :: b') (hx:Ex c l H (st :: b') r):Ex c l H b r:=h ▸ hx
theorem ts_open (h:e = .Compare e1 ops rs pos) (hx:Ts c l H (.Compare e1 ops rs pos) q H1):Ts c l H e q H1:=h ▸ hx
theorem st_openA {tg:Expr} (h:st = .Assign [tg] e pos) (hx:St c l H (.Assign [tg] e pos) r):St c l H st r:=h ▸ hx
theorem st_openI {o:List Stmt} (h:st = .If e b o pos) (hx:St c l H (.If e b o pos) r):St c l H st r:=h ▸ hx
theorem st_openE (h:st = .Expr e pos) (hx:St c l H (.Expr e pos) r):St c l H st r:=h ▸ hx
theorem st_openF {o:List Stmt} (h:st = .For tg e b o pos) (hx:St c l H (.For tg e b o pos) r):St c l H st r:=h ▸ hx
theorem st_openT {hs:List ExceptHandler} {o q:List Stmt} (h:st = .Try b hs o q pos) (hx:St c l H (.Try b hs o q pos) r):St c l H st r:=h ▸ hx
theorem st_openR (h:st = .Return (some e) pos) (hx:St c l H (.Return (some e) pos) r):St c l H st r:=h ▸ hx
theorem ev_openC {elt:Expr} {gens:List Comprehension} {scope:Scope} (h:e = .ListComp elt gens scope pos) (hx:Ev c l H (.ListComp elt gens scope pos) v H1):Ev c l H e v H1:=h ▸ hx
theorem as_openN (h:tg = .Name nm pos) (hx:As c l H (.Name nm pos) v l1 H1):As c l H tg v l1 H1:=h ▸ hx
theorem as_openT (h:tg = .Tuple es k pos) (hx:As c l H (.Tuple es k pos) v l1 H1):As c l H tg v l1 H1:=h ▸ hx
end
noncomputable def sAt (b:List Stmt) (i:Nat):Stmt:=(b[i]?).getD (.Pass default)
noncomputable def whT:Stmt→Expr | .While t _ _ _=>t | _=>.Constant .none 0 default
noncomputable def whB:Stmt→List Stmt | .While _ b _ _=>b | .For _ _ b _ _=>b | _=>[]
noncomputable def ifB:Stmt→List Stmt | .If _ b _ _=>b | _=>[]
noncomputable def forT:Stmt→Expr | .For t _ _ _ _=>t | _=>.Constant .none 0 default
noncomputable def forO:Stmt→List Stmt | .For _ _ _ o _=>o | _=>[]
noncomputable def ifO:Stmt→List Stmt | .If _ _ o _=>o | _=>[]
noncomputable def bsl (e:Nat→Int) (x:Int):Nat→Nat→Nat→Nat
  | 0,lo,_=>lo
  | f + 1,lo,hi=>if lo < hi then if e ((lo+hi) / 2) < x then bsl e x f ((lo+hi) / 2+1) hi else bsl e x f lo ((lo+hi) / 2) else lo
noncomputable def bsr (e:Nat→Int) (x:Int):Nat→Nat→Nat→Nat
  | 0,lo,_=>lo
  | f + 1,lo,hi=>if lo < hi then if x < e ((lo+hi) / 2) then bsr e x f lo ((lo+hi) / 2) else bsr e x f ((lo+hi) / 2+1) hi else lo
theorem mid_lt {lo hi hi0:Nat} (h:lo < hi) (hh:hi≤hi0):(lo+hi) / 2 < hi0∧(lo+hi) / 2≤hi0:=by omega
theorem mid_f {lo hi f:Nat} (h:lo < hi) (hf:hi - lo≤f+1):hi - ((lo+hi) / 2+1)≤f∧(lo+hi) / 2 - lo≤f:=by omega
theorem ge_of {lo hi:Nat} (hf:hi - lo≤0):¬ (lo:Int) < (hi:Int):=by omega
theorem lt_cast {lo hi:Nat} (h:lo < hi):(lo:Int) < (hi:Int):=Int.ofNat_lt.mpr h
theorem nlt_cast {lo hi:Nat} (h:¬ lo < hi):¬ (lo:Int) < (hi:Int):=fun q=>h (Int.ofNat_lt.mp q)
theorem if2 {c d:Prop} [Decidable c] [Decidable d] {α:Type} {a b e:α} (h:c) (h2:d):(if c then if d then a else b else e)=a:=(if_pos h).trans (if_pos h2)
theorem if3 {c d:Prop} [Decidable c] [Decidable d] {α:Type} {a b e:α} (h:c) (h2:¬ d):(if c then if d then a else b else e)=b:=(if_pos h).trans (if_neg h2)
noncomputable abbrev srL (i:Nat) (x lo hi:Int) (key:AV):Loc:=[("a",.ob i),("x",.int x),("lo",.int lo),("hi",.int hi),("key",key)]
section
variable {g:Gx} {n:Nat} {hd:Bool} {H:AHeap} {i j N:Nat} {xs:List AV} {e:Nat→Int} {x:Int} {hi0:Nat} {qq:Str} {pp:Arguments} {bb:Expr} {ss:Scope} {cc:List (Str × Nat)} {aa:Option Nat}
noncomputable abbrev lpN (d:FD):Stmt:=sAt (ifB (sAt d.body 2)) 0
noncomputable abbrev lpK (d:FD):Stmt:=sAt (ifO (sAt d.body 2)) 0
end
set_option compiler.extract_closed false
set_option hygiene false
local macro_rules | `(tactic| clear $x) => `(tactic| with_reducible apply $x)
local macro_rules | `(tactic| clear Zq) => `(tactic| first | (clear get_last) | ((clear getOld); clear Zq) | (with_reducible assumption) | rfl)
local macro_rules | `(tactic| clear Zp) => `(tactic| first
  | (with_reducible assumption)
  | (guard_target = ((_ : List AObj) ++ (_ : List AObj))[(_ : Nat)]? = some _; first
     | (clear get_last)
     | (with_reducible exact getKc (by with_reducible assumption))
     | (clear getLE)
     | (clear getL1)
     | (with_reducible exact getK rfl)
     | (with_reducible exact get0 rfl)
     | ((clear getK); clear Zq)
     | ((clear get0); clear Zq)
     | ((clear getOldE); clear Zp)
     | ((clear getOld); clear Zp))
  | (guard_target = (List.set (_ : List AObj) _ _)[(_ : Nat)]? = some _; first
     | ((clear getSame); clear Zp)
     | ((clear getNeO); clear Zp; clear Zp; rfl)
     | ((clear getNe); (first | (with_reducible assumption) | exact ne_add rfl | exact ne_add0 rfl | exact (ne_add0 rfl).symm); clear Zp))
  | assumption)
local macro_rules | `(tactic| clear Za) => `(tactic| first | (with_reducible assumption) | ((with_reducible apply AttrQ.mk); clear Zp; clear Zp; kernel_rfl; rfl; rfl))
local macro_rules | `(tactic| clear Zo) => `(tactic| first | rfl | (with_reducible assumption) | decide | assumption)
local macro_rules | `(tactic| clear Ze) => `(tactic| first
  | (guard_target = Ev _ _ _ (.Name _ _) _ _; first
     | (with_reducible assumption)
     | ((clear ev_loc); kernel_rfl; first | rfl | assumption)
     | ((clear ev_cell); rfl; clear Zp)
     | ((clear ev_glob); kernel_rfl; rfl)
     | ((clear ev_bi); kernel_rfl; rfl)
     | ((clear ev_ty); kernel_rfl; rfl))
  | (guard_target = Ev _ _ _ (.Constant _ _ _) _ _; first
     | (clear ev_int)
     | (clear ev_none)
     | (clear ev_str)
     | (clear ev_bool))
  | (guard_target = Ev _ _ _ (.BinOp _ _ _ _) _ _; (clear ev_bin))
  | (guard_target = Ev _ _ _ (.Subscript _ (.Slice none (some (.Constant _ _ _)) none _) _) _ _; (clear ev_slHZ); (focus (repeat clear Zg)); (focus (repeat clear Zg)); decide; exact .inl (by clear Zp); exact Nat.le_of_ble_eq_true rfl)
  | (guard_target = Ev _ _ _ (.Subscript _ (.Slice (some (.Constant _ _ _)) none none _) _) _ _; (clear ev_slLZ); (focus (repeat clear Zg)); (focus (repeat clear Zg)); decide; exact .inl (by clear Zp); exact Nat.le_of_ble_eq_true rfl)
  | (guard_target = Ev _ _ _ (.Subscript _ _ _) _ _; (clear ev_idx); exact fun _ _ => rfl)
  | (guard_target = Ev _ _ _ (.Call (.Name _ _) _ _ _) _ _; (clear ev_call); exact fun _ _ => rfl; exact fun _ _ => ⟨rfl, rfl, rfl⟩)
  | (guard_target = Ev _ _ _ (.Call (.Attribute _ _ _) _ _ _) _ _; (clear ev_meth); exact fun _ _ _ => rfl; exact fun _ _ => rfl; exact fun _ _ => rfl; rfl; clear Ze; clear Zp)
  | (guard_target = Ev _ _ (_ ++ _) (.List _ _) _ _; (clear ev_listE); exact fun _ _ => rfl)
  | (guard_target = Ev _ _ _ (.List _ _) _ _; (clear ev_list); exact fun _ _ => rfl)
  | (guard_target = Ev _ _ (_ ++ _) (.Tuple _ _ _) _ _; (clear ev_tupE); exact fun _ _ => rfl)
  | (guard_target = Ev _ _ _ (.Tuple _ _ _) _ _; (clear ev_tup); exact fun _ _ => rfl)
  | (guard_target = Ev _ _ (_ ++ _) (.Lambda _ _ _ _) _ _; (clear ev_lambdaE); rfl; exact fun _ => rfl; rfl)
  | (guard_target = Ev _ _ _ (.Lambda _ _ _ _) _ _; (clear ev_lambda); rfl; exact fun _ => rfl; rfl)
  | (guard_target = Ev _ _ _ (.Attribute _ _ _) _ _; (clear ev_attr); exact fun _ _ _ => rfl; clear Ze; clear Za)
  | (guard_target = Ev _ _ _ (.UnaryOp _ _ _) _ _; (clear ev_neg))
  | (guard_target = Ev _ _ _ (.IfExp _ _ _ _) _ _; first
     | ((clear ev_if_t); (focus (repeat clear Zg)); first | rfl | (with_reducible assumption))
     | ((clear ev_if_f); (focus (repeat clear Zg)); first | rfl | (with_reducible assumption)))
  | (guard_target = Ev _ _ _ (.BoolOp _ _ _) _ _; (clear ev_and))
  | (guard_target = Ev _ _ _ (.Compare _ _ _ _) _ _; (clear ev_cmp); exact fun _ => rfl))
local macro_rules | `(tactic| clear Zt) => `(tactic| first
  | (guard_target = Ts _ _ _ (.Compare _ _ _ _) _ _; (clear ts_cmp); exact fun _ => rfl)
  | (guard_target = Ts _ _ _ (.UnaryOp _ _ _) _ _; (clear ts_not))
  | (guard_target = Ts _ _ _ (.Call _ _ _ _) _ _; (clear ts_call))
  | (guard_target = Ts _ _ _ (.Name _ _) _ _; (clear ts_name))
  | (guard_target = Ts _ _ _ (.BoolOp _ _ _) _ _; (clear ts_row))
  | (guard_target = Ts _ _ _ (.Compare _ _ _ _) _ _; fail)
  | ((clear ts_open); exact rfl))
local macro_rules | `(tactic| clear Zs) => `(tactic| first
  | (guard_target = St _ _ _ (.Assign [.Tuple [.Name _ _, .Name _ _] _ _] _ _) _; (clear st_swap2); kernel_rfl; exact rfl)
  | (guard_target = St _ _ _ (.Assign _ _ _) _; (clear st_assign); kernel_rfl; kernel_rfl; exact fun _ _ => rfl)
  | (guard_target = St _ _ _ (.Expr _ _) _; (clear st_expr); exact fun _ _ => rfl)
  | (guard_target = St _ _ _ (.AugAssign _ _ _ _) _; (clear st_aug); kernel_rfl; rfl)
  | (guard_target = St _ _ _ (.If _ _ _ _) _; first
     | ((clear st_t); (focus (repeat clear Zg)); first | rfl | (with_reducible assumption) | exact decide_eq_true (by assumption))
     | ((clear st_f); (focus (repeat clear Zg)); first | rfl | (with_reducible assumption) | exact decide_eq_false (by assumption))))
local macro_rules | `(tactic| clear Zw) => `(tactic| first
     | ((clear st_openA); exact rfl)
     | ((clear st_openI); exact rfl)
     | ((clear st_openE); exact rfl)
     | ((clear st_openF); exact rfl)
     | ((clear st_openT); exact rfl)
     | ((clear st_openR); exact rfl))
local macro_rules | `(tactic| clear Zc) => `(tactic| first
  | (guard_target = Bin _ _ _ _ _ _ _; first
     | (guard_target = Bin _ .Add (.ob _) _ (_ ++ _) _ _; (clear b_catE); clear Zp; clear Zp; first | assumption | exact Nat.le_of_ble_eq_true rfl)
     | (guard_target = Bin _ .Mult (.ob _) _ (_ ++ _) _ _; (clear b_repE); clear Zp; rfl; exact Nat.le_of_ble_eq_true rfl)
     | (guard_target = Bin _ .Add (.ob _) _ _ _ _; (clear b_cat); clear Zp; clear Zp; first | assumption | decide)
     | (clear b_half)
     | (clear b_div2)
     | (clear b_half6)
     | (clear b_succ)
     | (clear b_add)
     | (clear b_sub)
     | ((clear b_mul); clear Zo)
     | ((clear b_div); clear Zo)
     | (clear b_mod2)
     | ((clear b_mod); clear Zo))
  | (guard_target = Cmp _ _ _ _ _ _; first
     | (clear c_lt)
     | (clear c_is_none)
     | (clear c_int_none)
     | (clear c_ob_none)
     | (clear c_le)
     | (clear c_eq_int)
     | (clear c_ne_int)
     | (clear c_is_bool)
     | (clear c_eq_str)
     | (clear c_ne_str))
  | (guard_target = Idx _ _ (.ob _) (.int (OfNat.ofNat _)) _; (clear i_list); clear Zp; decide; decide; first | (with_reducible assumption) | rfl)
  | (guard_target = Idx _ _ (.ob _) (.int ((_ : Int) + (_ : Int))) _; (clear i_list); clear Zp; decide; decide; rfl)
  | (guard_target = Idx _ _ (.ob _) (.str _) _; (clear i_dict); clear Zp; first | (with_reducible assumption) | rfl)
  | (guard_target = Idx _ _ (.bytes _) _ _; (clear i_byt); clear Zo; clear Zo)
  | (guard_target = Idx _ _ _ _ _; (clear i_nat); clear Zp; clear Zo; first | (with_reducible assumption) | rfl | assumption)
  | (guard_target = FnQ _ _; first
     | (with_reducible exact FnQ.bi)
     | (with_reducible exact FnQ.ty)
     | ((with_reducible refine FnQ.top ?_); first | rfl | assumption)
     | ((with_reducible apply FnQ.ob); clear Zp))
  | (guard_target = As _ _ _ (forT _) _ _ _; first
     | ((clear as_openN); exact rfl)
     | ((clear as_openT); exact rfl))
  | (guard_target = As _ _ (_ ++ _) (.Attribute _ _ _) _ _ _; first
     | ((clear as_attr_newE); clear Ze; rfl; kernel_rfl)
     | ((clear as_attr_oldE); clear Ze; rfl; rfl; kernel_rfl))
  | (guard_target = As _ _ _ (.Attribute _ _ _) _ _ _; first
     | ((clear as_attr_new); clear Ze; clear Zp; kernel_rfl)
     | ((clear as_attr_old); clear Ze; clear Zp; clear Zp; kernel_rfl))
  | (guard_target = As _ _ _ (.Tuple _ _ _) _ _ _; (clear as_tup); clear Zp)
  | (guard_target = As _ _ _ (.Name _ _) _ _ _; (clear as_name))
  | (guard_target = Sn _ _ _ _ _ _ _; first
     | (guard_target = Sn _ _ (_ ++ _) _ _ _ _; first
        | ((clear sn_cellE); kernel_rfl; rfl; clear Zq)
        | ((clear sn_cell0); kernel_rfl; rfl; clear Zq))
     | ((clear sn_cellG); kernel_rfl; rfl; clear Zp)
     | ((clear sn_here); kernel_rfl))
  | (guard_target = Call _ _ _ _ (.top _) _ _ _ _; first
     | (with_reducible assumption)
     | (clear c_add)
     | (clear c_sub)
     | (clear c_neg)
     | ((clear c_mul); assumption))
  | (guard_target = Call _ _ _ (_ ++ _) (.ty "list") _ _ _ _; (clear c_listE); clear Zp; first | (with_reducible assumption) | exact Nat.le_of_ble_eq_true rfl)
  | (guard_target = Call _ _ _ _ (.bi _) _ _ _ _; first
     | ((clear c_len); clear Zp; clear Zo)
     | ((clear c_has_list); clear Zp))
  | (guard_target = Meth _ _ _ _ _ _; first
     | ((clear mt_appendI); rfl; assumption)
     | ((clear mt_appendE); rfl; clear Zo)
     | ((clear mt_append); clear Zp; clear Zo)
     | ((clear mt_insert); clear Zp; clear Zo; clear Zo; clear Zo))
  | (guard_target = Fs _ _ _ [] _ _; (clear fs_nil))
  | (guard_target = Fs _ _ _ _ _ _; (clear fs_one))
  | (guard_target = (_ : List AObj)[(_ : Nat)]? = some _; clear Zp)
  | (guard_target = List.length _ ≤ _; first | (with_reducible assumption) | exact Nat.le_of_ble_eq_true rfl)
  | (guard_target = Go _ _ _; first | exact go_name | exact go_tup rfl)
  | (guard_target = Turn _ _ _ _ (.list _ _) _ _ _; (clear turn_list); clear Zp; first | (with_reducible assumption) | rfl)
  | (guard_target = Turn _ _ _ _ (.tup _ _) _ _ _; (clear turn_tup); clear Zp; first | (with_reducible assumption) | rfl)
  | (guard_target = Turn _ _ _ (.Tuple _ _ _) (.enum _ _) _ _ _; (clear turn_enum); clear Zp; first | (with_reducible assumption) | rfl)
  | (guard_target = Turn _ _ _ _ (.range _ _ _) _ _ _; (clear turn_range))
  | (guard_target = Turn _ _ _ _ (.bytes _) _ _ _; (clear turn_bytes))
  | (guard_target = At _ _ _ _ _ _ _; first | (clear at_nil) | ((clear at_cons); exact fun _ => rfl))
  | (guard_target = Bo _ _ _ [_] _ _; (clear bo_one))
  | (guard_target = Bo _ _ _ _ _ _; (clear bo_cons))
  | (guard_target = Al _ _ _ _ _ _ _; (clear al_same); kernel_rfl; rfl; kernel_rfl; rfl))
local macro_rules | `(tactic| clear Zl) => `(tactic| first
  | (guard_target = Ge _ _ _ _ _ _ _ _ _; first
     | ((clear ge_endE); rfl; clear Zl)
     | (guard_target = Ge _ _ _ _ [_] _ _ _ _; (clear ge_putE); rfl)
     | (guard_target = Ge _ _ _ _ (_ :: _) _ _ _ _; (clear ge_subE); rfl)
     | ((clear ge_open); exact rfl))
  | (guard_target = End _ _ _; first
     | ((clear end_tup); clear Zp; exact Nat.le_of_ble_eq_true rfl)
     | ((clear end_list); clear Zp; exact Nat.le_of_ble_eq_true rfl)
     | (clear end_range)
     | exact end_range)
  | (guard_target = It _ _ _ (.Tuple _ _ _) _ _; (clear it_tup); (focus (repeat clear Zg)); clear Zp)
  | (guard_target = It _ _ _ (.Name _ _) _ _; (clear it_list); (focus (repeat clear Zg)); clear Zp)
  | (guard_target = ((_ : AHeap) = _ ++ _); exact rfl)
  | (guard_target = (compIt _ = true); rfl)
  | (guard_target = (((_ : Int) != 0) = false); rfl)
  | (guard_target = (∀ (_ : Env) (_ : Value), foldedSetIterable _ _ _ = pure _); exact fun _ _ => rfl))
local macro_rules | `(tactic| clear Zg) => `(tactic| first
  | (guard_target = Ev _ _ _ _ _ _; clear Ze)
  | (guard_target = Ex _ _ _ _ _; first
     | (guard_target = Ex _ _ _ (Stmt.Return _ _ :: _) _; (clear ex_ret); (clear st_ret))
     | (guard_target = Ex _ _ _ [Stmt.If _ _ _ _] (SOut.mk (AFlow.ret _) _ _); (clear ex_ret))
     | (guard_target = Ex _ _ _ (_ :: _) _; (clear ex_cons))
     | (guard_target = Ex _ _ _ [] _; exact ex_nil)
     | (guard_target = Ex _ _ _ (_ :: _) _; fail)
     | ((clear ex_open); exact rfl))
  | (with_reducible assumption)
  | (guard_target = St _ _ _ (sAt _ _) _; clear Zw)
  | (guard_target = St _ _ _ _ _; clear Zs)
  | (guard_target = Es _ _ _ _ _ _; first | (clear es_nil) | (clear es_cons))
  | (guard_target = Ts _ _ _ _ _ _; clear Zt)
  | (guard_target = Ch _ _ _ _ _ _ _ _; (clear ch_one))
  | (guard_target = Ks _ _ _ _ _ _; first | (clear ks_nil) | (clear ks_cons))
  | clear Zc
  | clear Zl)
section
variable {g:Gx} {n:Nat} {hd:Bool} {H:AHeap} {i j N:Nat} {xs:List AV} {e:Nat→Int} {x:Int} {hi0:Nat} {qq:Str} {pp:Arguments} {bb:Expr} {ss:Scope} {cc:List (Str × Nat)} {aa:Option Nat}
theorem bl_N (hl:H[i]? = some (.list xs)) (hs:xs.length≤1000) (hx:∀ m,m < hi0→xs[m]? = some (.int (e m))):∀ f lo hi:Nat,hi - lo≤f→hi≤hi0 →
    Wh ⟨g,n,kOf dBl hd N⟩ (srL i x lo hi .none) H (whT (lpN dBl)) (whB (lpN dBl)) [("lo",.int (bsl e x f lo hi))] H:=by
  intro f
  induction f with
  | zero =>
    intro lo hi hf hh
    have h:=ge_of hf
    apply wh_stop
    rotate_left
    · repeat clear Zg
    · exact decide_eq_false h
    · exact fun nm v=>keep1 rfl
  | succ f ih =>
    intro lo hi hf hh
    unfold bsl
    by_cases h:lo < hi
    · have hm:=hx ((lo+hi) / 2) (mid_lt h hh).1
      have hlt:=lt_cast h
      by_cases hc:e ((lo+hi) / 2) < x
      · rw [if2 h hc]
        apply wh_step
        · apply ts_eq
          · repeat clear Zg
          · exact decide_eq_true hlt
        · repeat clear Zg
        · exact wh_sub (sub_app (srL i x ((lo+hi) / 2+1:Nat) hi .none) [("mid",_)]) (ih _ _ (mid_f h hf).1 hh)
      · rw [if3 h hc]
        apply wh_step
        · apply ts_eq
          · repeat clear Zg
          · exact decide_eq_true hlt
        · repeat clear Zg
        · exact wh_sub (sub_app (srL i x lo ((lo+hi) / 2:Nat) .none) [("mid",_)]) (ih _ _ (mid_f h hf).2 (mid_lt h hh).2)
    · rw [if_neg h]
      have h:=nlt_cast h
      apply wh_stop
      rotate_left
      · repeat clear Zg
      · exact decide_eq_false h
      · exact fun nm v=>keep1 rfl
theorem bl_K (hl:H[i]? = some (.list xs)) (hs:xs.length≤1000) (hj:H[j]? = some (.fn qq pp bb ss cc aa)) (hx:∀ m,m < hi0→∃ v,xs[m]? = some v∧Call g n hd H (.ob j) [v] [] (.int (e m)) H):∀ f lo hi:Nat,hi - lo≤f→hi≤hi0 →
    Wh ⟨g,n,kOf dBl hd N⟩ (srL i x lo hi (.ob j)) H (whT (lpK dBl)) (whB (lpK dBl)) [("lo",.int (bsl e x f lo hi))] H:=by
  intro f
  induction f with
  | zero =>
    intro lo hi hf hh
    have h:=ge_of hf
    apply wh_stop
    rotate_left
    · repeat clear Zg
    · exact decide_eq_false h
    · exact fun nm v=>keep1 rfl
  | succ f ih =>
    intro lo hi hf hh
    unfold bsl
    by_cases h:lo < hi
    · refine (hx ((lo+hi) / 2) (mid_lt h hh).1).elim fun v hm=>?_
      obtain ⟨hm1,hm2⟩:=hm
      have hlt:=lt_cast h
      by_cases hc:e ((lo+hi) / 2) < x
      · rw [if2 h hc]
        apply wh_step
        · apply ts_eq
          · repeat clear Zg
          · exact decide_eq_true hlt
        · repeat clear Zg
        · exact wh_sub (sub_app (srL i x ((lo+hi) / 2+1:Nat) hi (.ob j)) [("mid",_)]) (ih _ _ (mid_f h hf).1 hh)
      · rw [if3 h hc]
        apply wh_step
        · apply ts_eq
          · repeat clear Zg
          · exact decide_eq_true hlt
        · repeat clear Zg
        · exact wh_sub (sub_app (srL i x lo ((lo+hi) / 2:Nat) (.ob j)) [("mid",_)]) (ih _ _ (mid_f h hf).2 (mid_lt h hh).2)
    · rw [if_neg h]
      have h:=nlt_cast h
      apply wh_stop
      rotate_left
      · repeat clear Zg
      · exact decide_eq_false h
      · exact fun nm v=>keep1 rfl
theorem br_N (hl:H[i]? = some (.list xs)) (hs:xs.length≤1000) (hx:∀ m,m < hi0→xs[m]? = some (.int (e m))):∀ f lo hi:Nat,hi - lo≤f→hi≤hi0 →
    Wh ⟨g,n,kOf dBr hd N⟩ (srL i x lo hi .none) H (whT (lpN dBr)) (whB (lpN dBr)) [("lo",.int (bsr e x f lo hi))] H:=by
  intro f
  induction f with
  | zero =>
    intro lo hi hf hh
    have h:=ge_of hf
    apply wh_stop
    rotate_left
    · repeat clear Zg
    · exact decide_eq_false h
    · exact fun nm v=>keep1 rfl
  | succ f ih =>
    intro lo hi hf hh
    unfold bsr
    by_cases h:lo < hi
    · have hm:=hx ((lo+hi) / 2) (mid_lt h hh).1
      have hlt:=lt_cast h
      by_cases hc:x < e ((lo+hi) / 2)
      · rw [if2 h hc]
        apply wh_step
        · apply ts_eq
          · repeat clear Zg
          · exact decide_eq_true hlt
        · repeat clear Zg
        · exact wh_sub (sub_app (srL i x lo ((lo+hi) / 2:Nat) .none) [("mid",_)]) (ih _ _ (mid_f h hf).2 (mid_lt h hh).2)
      · rw [if3 h hc]
        apply wh_step
        · apply ts_eq
          · repeat clear Zg
          · exact decide_eq_true hlt
        · repeat clear Zg
        · exact wh_sub (sub_app (srL i x ((lo+hi) / 2+1:Nat) hi .none) [("mid",_)]) (ih _ _ (mid_f h hf).1 hh)
    · rw [if_neg h]
      have h:=nlt_cast h
      apply wh_stop
      rotate_left
      · repeat clear Zg
      · exact decide_eq_false h
      · exact fun nm v=>keep1 rfl
theorem br_K (hl:H[i]? = some (.list xs)) (hs:xs.length≤1000) (hj:H[j]? = some (.fn qq pp bb ss cc aa)) (hx:∀ m,m < hi0→∃ v,xs[m]? = some v∧Call g n hd H (.ob j) [v] [] (.int (e m)) H):∀ f lo hi:Nat,hi - lo≤f→hi≤hi0 →
    Wh ⟨g,n,kOf dBr hd N⟩ (srL i x lo hi (.ob j)) H (whT (lpK dBr)) (whB (lpK dBr)) [("lo",.int (bsr e x f lo hi))] H:=by
  intro f
  induction f with
  | zero =>
    intro lo hi hf hh
    have h:=ge_of hf
    apply wh_stop
    rotate_left
    · repeat clear Zg
    · exact decide_eq_false h
    · exact fun nm v=>keep1 rfl
  | succ f ih =>
    intro lo hi hf hh
    unfold bsr
    by_cases h:lo < hi
    · refine (hx ((lo+hi) / 2) (mid_lt h hh).1).elim fun v hm=>?_
      obtain ⟨hm1,hm2⟩:=hm
      have hlt:=lt_cast h
      by_cases hc:x < e ((lo+hi) / 2)
      · rw [if2 h hc]
        apply wh_step
        · apply ts_eq
          · repeat clear Zg
          · exact decide_eq_true hlt
        · repeat clear Zg
        · exact wh_sub (sub_app (srL i x lo ((lo+hi) / 2:Nat) (.ob j)) [("mid",_)]) (ih _ _ (mid_f h hf).2 (mid_lt h hh).2)
      · rw [if3 h hc]
        apply wh_step
        · apply ts_eq
          · repeat clear Zg
          · exact decide_eq_true hlt
        · repeat clear Zg
        · exact wh_sub (sub_app (srL i x ((lo+hi) / 2+1:Nat) hi (.ob j)) [("mid",_)]) (ih _ _ (mid_f h hf).1 hh)
    · rw [if_neg h]
      have h:=nlt_cast h
      apply wh_stop
      rotate_left
      · repeat clear Zg
      · exact decide_eq_false h
      · exact fun nm v=>keep1 rfl
inductive HiOf (xs:List AV):AV→Nat→Prop
  | int {h:Nat}:h≤xs.length→HiOf xs (.int h) h
  | none:HiOf xs .none xs.length
theorem HiOf.le {hv:AV} {h:Nat} (q:HiOf xs hv h):h≤xs.length:=by
  cases q with
  | int h=>exact h
  | none=>exact Nat.le_refl _
theorem ge0 {lo:Nat}:¬ (lo:Int) < 0:=Int.not_lt.mpr (Int.natCast_nonneg lo)
theorem lt1000 {k:Nat} (h:k≤100):k < 1000:=Nat.lt_of_le_of_lt h (by decide)
theorem le1000 {k:Nat} (h:k≤100):k≤1000:=Nat.le_trans h (by decide)
noncomputable abbrev s0L (i:Nat) (x lo:Int) (hv key:AV):Loc:=[("a",.ob i),("x",.int x),("lo",.int lo),("hi",hv),("key",key)]
theorem bl_sN {lo hi:Nat} (hl:H[i]? = some (.list xs)) (hs:xs.length≤1000) (hx:∀ m,m < xs.length→xs[m]? = some (.int (e m))) (hh:hi≤xs.length):St ⟨g,n,kOf dBl hd N⟩ (srL i x lo hi .none) H (lpN dBl) ⟨.next,[("lo",.int (bsl e x hi lo hi))],H⟩:=by
  apply st_while
  exact bl_N hl hs hx hi lo hi (Nat.sub_le _ _) hh
theorem bl_bodyN {lo hi:Nat} {hv:AV} (hl:H[i]? = some (.list xs)) (hs:xs.length≤100) (hx:∀ m,m < xs.length→xs[m]? = some (.int (e m))) (hh:HiOf xs hv hi) :
    Ex ⟨g,n,kOf dBl hd N⟩ (s0L i x lo hv .none) H dBl.body ⟨.ret (.int (bsl e x hi lo hi)),[("lo",.int (bsl e x hi lo hi))],H⟩:=by
  have g0:¬ (lo:Int) < 0:=ge0
  have h1:=le1000 hs
  have h2:=lt1000 hs
  cases hh with
  | int h =>
    repeat clear Zg
    · exact bl_sN hl h1 hx h
    repeat clear Zg
  | none =>
    repeat clear Zg
    · exact bl_sN hl h1 hx (Nat.le_refl _)
    repeat clear Zg
theorem br_sN {lo hi:Nat} (hl:H[i]? = some (.list xs)) (hs:xs.length≤1000) (hx:∀ m,m < xs.length→xs[m]? = some (.int (e m))) (hh:hi≤xs.length):St ⟨g,n,kOf dBr hd N⟩ (srL i x lo hi .none) H (lpN dBr) ⟨.next,[("lo",.int (bsr e x hi lo hi))],H⟩:=by
  apply st_while
  exact br_N hl hs hx hi lo hi (Nat.sub_le _ _) hh
theorem br_bodyN {lo hi:Nat} {hv:AV} (hl:H[i]? = some (.list xs)) (hs:xs.length≤100) (hx:∀ m,m < xs.length→xs[m]? = some (.int (e m))) (hh:HiOf xs hv hi) :
    Ex ⟨g,n,kOf dBr hd N⟩ (s0L i x lo hv .none) H dBr.body ⟨.ret (.int (bsr e x hi lo hi)),[("lo",.int (bsr e x hi lo hi))],H⟩:=by
  have g0:¬ (lo:Int) < 0:=ge0
  have h1:=le1000 hs
  have h2:=lt1000 hs
  cases hh with
  | int h =>
    repeat clear Zg
    · exact br_sN hl h1 hx h
    repeat clear Zg
  | none =>
    repeat clear Zg
    · exact br_sN hl h1 hx (Nat.le_refl _)
    repeat clear Zg
theorem bl_sK {lo hi:Nat} (hl:H[i]? = some (.list xs)) (hs:xs.length≤1000) (hj:H[j]? = some (.fn qq pp bb ss cc aa)) (hx:∀ m,m < xs.length→∃ v,xs[m]? = some v∧Call g n hd H (.ob j) [v] [] (.int (e m)) H) (hh:hi≤xs.length):St ⟨g,n,kOf dBl hd N⟩ (srL i x lo hi (.ob j)) H (lpK dBl) ⟨.next,[("lo",.int (bsl e x hi lo hi))],H⟩:=by
  apply st_while
  exact bl_K hl hs hj hx hi lo hi (Nat.sub_le _ _) hh
theorem bl_bodyK {lo hi:Nat} {hv:AV} (hl:H[i]? = some (.list xs)) (hs:xs.length≤100) (hj:H[j]? = some (.fn qq pp bb ss cc aa)) (hx:∀ m,m < xs.length→∃ v,xs[m]? = some v∧Call g n hd H (.ob j) [v] [] (.int (e m)) H) (hh:HiOf xs hv hi) :
    Ex ⟨g,n,kOf dBl hd N⟩ (s0L i x lo hv (.ob j)) H dBl.body ⟨.ret (.int (bsl e x hi lo hi)),[("lo",.int (bsl e x hi lo hi))],H⟩:=by
  have g0:¬ (lo:Int) < 0:=ge0
  have h1:=le1000 hs
  have h2:=lt1000 hs
  cases hh with
  | int h =>
    repeat clear Zg
    · exact bl_sK hl h1 hj hx h
    repeat clear Zg
  | none =>
    repeat clear Zg
    · exact bl_sK hl h1 hj hx (Nat.le_refl _)
    repeat clear Zg
theorem br_sK {lo hi:Nat} (hl:H[i]? = some (.list xs)) (hs:xs.length≤1000) (hj:H[j]? = some (.fn qq pp bb ss cc aa)) (hx:∀ m,m < xs.length→∃ v,xs[m]? = some v∧Call g n hd H (.ob j) [v] [] (.int (e m)) H) (hh:hi≤xs.length):St ⟨g,n,kOf dBr hd N⟩ (srL i x lo hi (.ob j)) H (lpK dBr) ⟨.next,[("lo",.int (bsr e x hi lo hi))],H⟩:=by
  apply st_while
  exact br_K hl hs hj hx hi lo hi (Nat.sub_le _ _) hh
theorem br_bodyK {lo hi:Nat} {hv:AV} (hl:H[i]? = some (.list xs)) (hs:xs.length≤100) (hj:H[j]? = some (.fn qq pp bb ss cc aa)) (hx:∀ m,m < xs.length→∃ v,xs[m]? = some v∧Call g n hd H (.ob j) [v] [] (.int (e m)) H) (hh:HiOf xs hv hi) :
    Ex ⟨g,n,kOf dBr hd N⟩ (s0L i x lo hv (.ob j)) H dBr.body ⟨.ret (.int (bsr e x hi lo hi)),[("lo",.int (bsr e x hi lo hi))],H⟩:=by
  have g0:¬ (lo:Int) < 0:=ge0
  have h1:=le1000 hs
  have h2:=lt1000 hs
  cases hh with
  | int h =>
    repeat clear Zg
    · exact br_sK hl h1 hj hx h
    repeat clear Zg
  | none =>
    repeat clear Zg
    · exact br_sK hl h1 hj hx (Nat.le_refl _)
    repeat clear Zg
end
section
variable {g:Gx} {n:Nat} {hd:Bool} {H H1 H2:AHeap} {i j N:Nat} {xs:List AV} {e:Nat→Int} {x:Int} {qq:Str} {pp:Arguments} {bb:Expr} {ss:Scope} {cc:List (Str × Nat)} {aa:Option Nat} {args:List AV} {kws binds:List (Str × AV)} {l l1 l2:Loc} {k:K} {d:FD} {v:AV}
theorem bs_loc:∀ {l:Loc},(binds.all fun p=>k.scope.names.lookup p.1 == some .local)=true→Bs g k l H binds (binds.foldl (fun l p=>upd p.1 p.2 l) l) H:=by
  induction binds with
  | nil=>intro l _;apply bs_nil
  | cons p r ih =>
    intro l h
    have w:=Bool.and_eq_true_iff.mp h
    apply bs_cons
    · apply sn_loc;exact eq_of_beq w.1
    · apply ih;exact w.2
theorem call0 (hm:d∈defTab) (hc:cellsN d.scope.names=[]) (hb:Bd g d args kws binds) (hl:(binds.all fun p=>d.scope.names.lookup p.1 == some .local)=true)
    (hx:Ex ⟨g,n,kOf d hd H.length⟩ (binds.foldl (fun l p=>upd p.1 p.2 l) []) H d.body ⟨.ret v,l2,H2⟩):Call g (n+1) hd H (.top d.addr) args kws v H2:=by
  apply call_ret hm hb (l1:=binds.foldl (fun l p=>upd p.1 p.2 l) []) (H1:=H)
  · rw [hc,List.append_nil];apply bs_loc;exact hl
  · exact hx
theorem call0n (hm:d∈defTab) (hc:cellsN d.scope.names=[]) (hb:Bd g d args kws binds) (hl:(binds.all fun p=>d.scope.names.lookup p.1 == some .local)=true)
    (hx:Ex ⟨g,n,kOf d hd H.length⟩ (binds.foldl (fun l p=>upd p.1 p.2 l) []) H d.body ⟨.next,l2,H2⟩):Call g (n+1) hd H (.top d.addr) args kws .none H2:=by
  apply call_next hm hb (l1:=binds.foldl (fun l p=>upd p.1 p.2 l) []) (H1:=H)
  · rw [hc,List.append_nil];apply bs_loc;exact hl
  · exact hx
theorem mBl:dBl∈defTab:=.head _
theorem mBr:dBr∈defTab:=.tail _ (.head _)
theorem sBl:dflD dBl=true∧dBl.params=canon dBl.params:=⟨by kernel_rfl,by kernel_rfl⟩
theorem sBr:dflD dBr=true∧dBr.params=canon dBr.params:=⟨by kernel_rfl,by kernel_rfl⟩
theorem sIl:dflD dIl=true∧dIl.params=canon dIl.params:=⟨by kernel_rfl,by kernel_rfl⟩
theorem sIr:dflD dIr=true∧dIr.params=canon dIr.params:=⟨by kernel_rfl,by kernel_rfl⟩
theorem bl_N4 {lo hi:Nat} {hv:AV} (hb:Bd g dBl args kws (srch (.ob i) (.int x) (.int lo) hv .none)) (hl:H[i]? = some (.list xs)) (hs:xs.length≤100) (hx:∀ m,m < xs.length→xs[m]? = some (.int (e m))) (hh:HiOf xs hv hi):Call g (n+1) hd H (.top 50) args kws (.int (bsl e x hi lo hi)) H:=by
  apply call0 mBl (by kernel_rfl) hb (by kernel_rfl)
  exact bl_bodyN hl hs hx hh
theorem br_N4 {lo hi:Nat} {hv:AV} (hb:Bd g dBr args kws (srch (.ob i) (.int x) (.int lo) hv .none)) (hl:H[i]? = some (.list xs)) (hs:xs.length≤100) (hx:∀ m,m < xs.length→xs[m]? = some (.int (e m))) (hh:HiOf xs hv hi):Call g (n+1) hd H (.top 32) args kws (.int (bsr e x hi lo hi)) H:=by
  apply call0 mBr (by kernel_rfl) hb (by kernel_rfl)
  exact br_bodyN hl hs hx hh
theorem bl_K4 {lo hi:Nat} {hv:AV} (hb:Bd g dBl args kws (srch (.ob i) (.int x) (.int lo) hv (.ob j))) (hl:H[i]? = some (.list xs)) (hs:xs.length≤100) (hj:H[j]? = some (.fn qq pp bb ss cc aa)) (hx:∀ m,m < xs.length→∃ v,xs[m]? = some v∧Call g n hd H (.ob j) [v] [] (.int (e m)) H) (hh:HiOf xs hv hi):Call g (n+1) hd H (.top 50) args kws (.int (bsl e x hi lo hi)) H:=by
  apply call0 mBl (by kernel_rfl) hb (by kernel_rfl)
  exact bl_bodyK hl hs hj hx hh
theorem br_K4 {lo hi:Nat} {hv:AV} (hb:Bd g dBr args kws (srch (.ob i) (.int x) (.int lo) hv (.ob j))) (hl:H[i]? = some (.list xs)) (hs:xs.length≤100) (hj:H[j]? = some (.fn qq pp bb ss cc aa)) (hx:∀ m,m < xs.length→∃ v,xs[m]? = some v∧Call g n hd H (.ob j) [v] [] (.int (e m)) H) (hh:HiOf xs hv hi):Call g (n+1) hd H (.top 32) args kws (.int (bsr e x hi lo hi)) H:=by
  apply call0 mBr (by kernel_rfl) hb (by kernel_rfl)
  exact br_bodyK hl hs hj hx hh
theorem mid_le {lo hi M:Nat} (h1:lo≤M) (h2:hi≤M) (h:lo < hi):(lo+hi) / 2+1≤M∧(lo+hi) / 2≤M:=by omega
theorem bsl_le {M:Nat}:∀ (f lo hi:Nat),lo≤M→hi≤M→bsl e x f lo hi≤M:=by
  intro f
  induction f with
  | zero=>exact fun _ _ h _=>h
  | succ f ih =>
    intro lo hi h1 h2
    unfold bsl
    by_cases h:lo < hi
    · rw [if_pos h]
      by_cases hc:e ((lo+hi) / 2) < x
      · rw [if_pos hc];exact ih _ _ (mid_le h1 h2 h).1 h2
      · rw [if_neg hc];exact ih _ _ h1 (mid_le h1 h2 h).2
    · rw [if_neg h];exact h1
noncomputable def insAt (xs:List AV) (p:Nat) (v:AV):List AV:=xs.take p++v :: xs.drop p
theorem il_bodyN {lo hi:Nat} {hv:AV} (hl:H[i]? = some (.list xs)) (hs:xs.length≤100) (hx:∀ m,m < xs.length→xs[m]? = some (.int (e m))) (hh:HiOf xs hv hi) (hlo:lo≤100) :
    Ex ⟨g,n+1,kOf dIl hd N⟩ (s0L i x lo hv .none) H dIl.body ⟨.next,s0L i x (bsl e x hi lo hi:Nat) hv .none,H.set i (.list (insAt xs (bsl e x hi lo hi) (.int x)))⟩:=by
  have h1:=le1000 hs
  have hp:bsl e x hi lo hi≤100:=bsl_le hi lo hi hlo (Nat.le_trans hh.le hs)
  have h2:(0:Int)≤(bsl e x hi lo hi:Nat):=Int.natCast_nonneg _
  have h3:((bsl e x hi lo hi:Nat):Int) < 1000:=Int.ofNat_lt.mpr (lt1000 hp)
  repeat clear Zg
  · exact bl_N4 (bd_s4 mBl sBl.1 sBl.2) hl hs hx hh
  repeat clear Zg
theorem bsr_le {M:Nat}:∀ (f lo hi:Nat),lo≤M→hi≤M→bsr e x f lo hi≤M:=by
  intro f
  induction f with
  | zero=>exact fun _ _ h _=>h
  | succ f ih =>
    intro lo hi h1 h2
    unfold bsr
    by_cases h:lo < hi
    · rw [if_pos h]
      by_cases hc:x < e ((lo+hi) / 2)
      · rw [if_pos hc];exact ih _ _ h1 (mid_le h1 h2 h).2
      · rw [if_neg hc];exact ih _ _ (mid_le h1 h2 h).1 h2
    · rw [if_neg h];exact h1
theorem ir_bodyN {lo hi:Nat} {hv:AV} (hl:H[i]? = some (.list xs)) (hs:xs.length≤100) (hx:∀ m,m < xs.length→xs[m]? = some (.int (e m))) (hh:HiOf xs hv hi) (hlo:lo≤100) :
    Ex ⟨g,n+1,kOf dIr hd N⟩ (s0L i x lo hv .none) H dIr.body ⟨.next,s0L i x (bsr e x hi lo hi:Nat) hv .none,H.set i (.list (insAt xs (bsr e x hi lo hi) (.int x)))⟩:=by
  have h1:=le1000 hs
  have hp:bsr e x hi lo hi≤100:=bsr_le hi lo hi hlo (Nat.le_trans hh.le hs)
  have h2:(0:Int)≤(bsr e x hi lo hi:Nat):=Int.natCast_nonneg _
  have h3:((bsr e x hi lo hi:Nat):Int) < 1000:=Int.ofNat_lt.mpr (lt1000 hp)
  repeat clear Zg
  · exact br_N4 (bd_s4 mBr sBr.1 sBr.2) hl hs hx hh
  repeat clear Zg
noncomputable abbrev s1L (i:Nat) (w:AV) (lo:Int) (hv key:AV):Loc:=[("a",.ob i),("x",w),("lo",.int lo),("hi",hv),("key",key)]
theorem il_bodyK {lo hi:Nat} {hv w:AV} (hl:H[i]? = some (.list xs)) (hs:xs.length≤100) (hj:H[j]? = some (.fn qq pp bb ss cc aa)) (hw:Call g (n+1) hd H (.ob j) [w] [] (.int x) H) (hx:∀ m,m < xs.length→∃ v,xs[m]? = some v∧Call g n hd H (.ob j) [v] [] (.int (e m)) H) (hh:HiOf xs hv hi) (hlo:lo≤100) :
    Ex ⟨g,n+1,kOf dIl hd N⟩ (s1L i w lo hv (.ob j)) H dIl.body ⟨.next,s1L i w (bsl e x hi lo hi:Nat) hv (.ob j),H.set i (.list (insAt xs (bsl e x hi lo hi) w))⟩:=by
  have h1:=le1000 hs
  have hp:bsl e x hi lo hi≤100:=bsl_le hi lo hi hlo (Nat.le_trans hh.le hs)
  have h2:(0:Int)≤(bsl e x hi lo hi:Nat):=Int.natCast_nonneg _
  have h3:((bsl e x hi lo hi:Nat):Int) < 1000:=Int.ofNat_lt.mpr (lt1000 hp)
  repeat clear Zg
  · exact bl_K4 (bd_sk4 mBl sBl.1 sBl.2) hl hs hj hx hh
  repeat clear Zg
theorem ir_bodyK {lo hi:Nat} {hv w:AV} (hl:H[i]? = some (.list xs)) (hs:xs.length≤100) (hj:H[j]? = some (.fn qq pp bb ss cc aa)) (hw:Call g (n+1) hd H (.ob j) [w] [] (.int x) H) (hx:∀ m,m < xs.length→∃ v,xs[m]? = some v∧Call g n hd H (.ob j) [v] [] (.int (e m)) H) (hh:HiOf xs hv hi) (hlo:lo≤100) :
    Ex ⟨g,n+1,kOf dIr hd N⟩ (s1L i w lo hv (.ob j)) H dIr.body ⟨.next,s1L i w (bsr e x hi lo hi:Nat) hv (.ob j),H.set i (.list (insAt xs (bsr e x hi lo hi) w))⟩:=by
  have h1:=le1000 hs
  have hp:bsr e x hi lo hi≤100:=bsr_le hi lo hi hlo (Nat.le_trans hh.le hs)
  have h2:(0:Int)≤(bsr e x hi lo hi:Nat):=Int.natCast_nonneg _
  have h3:((bsr e x hi lo hi:Nat):Int) < 1000:=Int.ofNat_lt.mpr (lt1000 hp)
  repeat clear Zg
  · exact br_K4 (bd_sk4 mBr sBr.1 sBr.2) hl hs hj hx hh
  repeat clear Zg
theorem mIl:dIl∈defTab:=.tail _ (.tail _ (.head _))
theorem mIr:dIr∈defTab:=.tail _ (.tail _ (.tail _ (.head _)))
theorem il_N {lo hi:Nat} {hv:AV} (hb:Bd g dIl args kws (srch (.ob i) (.int x) (.int lo) hv .none)) (hl:H[i]? = some (.list xs)) (hs:xs.length≤100) (hx:∀ m,m < xs.length→xs[m]? = some (.int (e m))) (hh:HiOf xs hv hi) (hlo:lo≤100) :
    Call g (n+2) hd H (.top 41) args kws .none (H.set i (.list (insAt xs (bsl e x hi lo hi) (.int x)))):=by
  apply call0n mIl (by kernel_rfl) hb (by kernel_rfl)
  exact il_bodyN hl hs hx hh hlo
theorem ir_N {lo hi:Nat} {hv:AV} (hb:Bd g dIr args kws (srch (.ob i) (.int x) (.int lo) hv .none)) (hl:H[i]? = some (.list xs)) (hs:xs.length≤100) (hx:∀ m,m < xs.length→xs[m]? = some (.int (e m))) (hh:HiOf xs hv hi) (hlo:lo≤100) :
    Call g (n+2) hd H (.top 23) args kws .none (H.set i (.list (insAt xs (bsr e x hi lo hi) (.int x)))):=by
  apply call0n mIr (by kernel_rfl) hb (by kernel_rfl)
  exact ir_bodyN hl hs hx hh hlo
theorem il_K {lo hi:Nat} {hv w:AV} (hb:Bd g dIl args kws (srch (.ob i) w (.int lo) hv (.ob j))) (hl:H[i]? = some (.list xs)) (hs:xs.length≤100) (hj:H[j]? = some (.fn qq pp bb ss cc aa)) (hw:Call g (n+1) hd H (.ob j) [w] [] (.int x) H) (hx:∀ m,m < xs.length→∃ v,xs[m]? = some v∧Call g n hd H (.ob j) [v] [] (.int (e m)) H) (hh:HiOf xs hv hi) (hlo:lo≤100) :
    Call g (n+2) hd H (.top 41) args kws .none (H.set i (.list (insAt xs (bsl e x hi lo hi) w))):=by
  apply call0n mIl (by kernel_rfl) hb (by kernel_rfl)
  exact il_bodyK hl hs hj hw hx hh hlo
theorem ir_K {lo hi:Nat} {hv w:AV} (hb:Bd g dIr args kws (srch (.ob i) w (.int lo) hv (.ob j))) (hl:H[i]? = some (.list xs)) (hs:xs.length≤100) (hj:H[j]? = some (.fn qq pp bb ss cc aa)) (hw:Call g (n+1) hd H (.ob j) [w] [] (.int x) H) (hx:∀ m,m < xs.length→∃ v,xs[m]? = some v∧Call g n hd H (.ob j) [v] [] (.int (e m)) H) (hh:HiOf xs hv hi) (hlo:lo≤100) :
    Call g (n+2) hd H (.top 23) args kws .none (H.set i (.list (insAt xs (bsr e x hi lo hi) w))):=by
  apply call0n mIr (by kernel_rfl) hb (by kernel_rfl)
  exact ir_bodyK hl hs hj hw hx hh hlo
end
section
variable {g:Gx} {n:Nat} {hd:Bool} {H:AHeap} {a b:Int}
theorem in_tab {d:FD} (i:Nat) (e:defTab[i]? = some d):d∈defTab:=List.mem_of_getElem? e
theorem c_add:Call g (n+1) hd H (.top 57) [.int a,.int b] [] (.int (a+b)) H:=by
  apply call0 (in_tab 4 rfl) (by kernel_rfl) (bd_2 (n1:="a") (n2:="b") (in_tab 4 rfl) (by kernel_rfl) (by decide +kernel) (fun _ _ _ _ _ _ _=>by kernel_rfl)) (by kernel_rfl)
  repeat clear Zg
theorem c_mul (hb:-(2 ^ 64) < b∧b < 2 ^ 64):Call g (n+1) hd H (.top 64) [.int a,.int b] [] (.int (a * b)) H:=by
  apply call0 (in_tab 5 rfl) (by kernel_rfl) (bd_2 (n1:="a") (n2:="b") (in_tab 5 rfl) (by kernel_rfl) (by decide +kernel) (fun _ _ _ _ _ _ _=>by kernel_rfl)) (by kernel_rfl)
  repeat clear Zg
theorem c_neg:Call g (n+1) hd H (.top 71) [.int a] [] (.int (-a)) H:=by
  apply call0 (in_tab 6 rfl) (by kernel_rfl) (bd_1 (n1:="a") (in_tab 6 rfl) (by kernel_rfl) (by decide +kernel) (fun _ _ _ _ _ _=>by kernel_rfl)) (by kernel_rfl)
  repeat clear Zg
theorem c_sub:Call g (n+1) hd H (.top 78) [.int a,.int b] [] (.int (a - b)) H:=by
  apply call0 (in_tab 7 rfl) (by kernel_rfl) (bd_2 (n1:="a") (n2:="b") (in_tab 7 rfl) (by kernel_rfl) (by decide +kernel) (fun _ _ _ _ _ _ _=>by kernel_rfl)) (by kernel_rfl)
  repeat clear Zg
end
section
variable {g:Gx} {n N:Nat} {H:AHeap} {a x hv key:AV} {d:FD}
noncomputable abbrev sxL (a x:AV) (lo:Int) (hv key:AV):Loc:=[("a",a),("x",x),("lo",.int lo),("hi",hv),("key",key)]
theorem bl_exc:Ex ⟨g,n,kOf dBl false N⟩ (sxL a x (-1) hv key) H dBl.body ⟨.exc H.length,sxL a x (-1) hv key,H++[.exc "lo must be non-negative"]⟩:=by
  apply ex_exc
  apply st_t
  · repeat clear Zg
  · rfl
  apply ex_exc
  apply st_raise
  · kernel_rfl
  · rfl
theorem br_exc:Ex ⟨g,n,kOf dBr false N⟩ (sxL a x (-1) hv key) H dBr.body ⟨.exc H.length,sxL a x (-1) hv key,H++[.exc "lo must be non-negative"]⟩:=by
  apply ex_exc
  apply st_t
  · repeat clear Zg
  · rfl
  apply ex_exc
  apply st_raise
  · kernel_rfl
  · rfl
end
section
variable {g:Gx} {n N:Nat} {H H2:AHeap} {a x hv key:AV} {d:FD} {args:List AV} {kws binds:List (Str × AV)} {l2:Loc} {i:Nat} {hd:Bool}
theorem call0x (hm:d∈defTab) (hc:cellsN d.scope.names=[]) (hb:Bd g d args kws binds) (hl:(binds.all fun p=>d.scope.names.lookup p.1 == some .local)=true)
    (hx:Ex ⟨g,n,kOf d hd H.length⟩ (binds.foldl (fun l p=>upd p.1 p.2 l) []) H d.body ⟨.exc i,l2,H2⟩):CallX g (n+1) hd H (.top d.addr) args kws i H2:=by
  apply call_exc hm hb (l1:=binds.foldl (fun l p=>upd p.1 p.2 l) []) (H1:=H)
  · rw [hc,List.append_nil];apply bs_loc;exact hl
  · exact hx
theorem bl_x (hb:Bd g dBl args kws (srch a x (.int (-1)) hv key)):CallX g (n+1) false H (.top 50) args kws H.length (H++[.exc "lo must be non-negative"]):=by
  apply call0x mBl (by kernel_rfl) hb (by kernel_rfl)
  exact bl_exc
theorem br_x (hb:Bd g dBr args kws (srch a x (.int (-1)) hv key)):CallX g (n+1) false H (.top 32) args kws H.length (H++[.exc "lo must be non-negative"]):=by
  apply call0x mBr (by kernel_rfl) hb (by kernel_rfl)
  exact br_exc
end
section
variable {g:Gx} {n N:Nat} {H:AHeap} {i j:Nat} {x w hv:AV} {kws:List (Str × AV)} {args:List AV} {qq:Str} {pp:Arguments} {bb:Expr} {ss:Scope} {cc:List (Str × Nat)} {aa:Option Nat}
theorem il_excN:Ex ⟨g,n+1,kOf dIl false N⟩ (sxL (.ob i) x (-1) hv .none) H dIl.body ⟨.exc H.length,sxL (.ob i) x (-1) hv .none,H++[.exc "lo must be non-negative"]⟩:=by
  apply ex_exc
  apply st_t
  · repeat clear Zg
  · rfl
  apply ex_exc
  apply stx_assign
  · kernel_rfl
  apply evx_call
  · exact fun _ _=>rfl
  · exact fun _ _=>⟨rfl,rfl,rfl⟩
  repeat clear Zg
  exact bl_x (bd_s4 mBl sBl.1 sBl.2)
theorem ir_excN:Ex ⟨g,n+1,kOf dIr false N⟩ (sxL (.ob i) x (-1) hv .none) H dIr.body ⟨.exc H.length,sxL (.ob i) x (-1) hv .none,H++[.exc "lo must be non-negative"]⟩:=by
  apply ex_exc
  apply st_t
  · repeat clear Zg
  · rfl
  apply ex_exc
  apply stx_assign
  · kernel_rfl
  apply evx_call
  · exact fun _ _=>rfl
  · exact fun _ _=>⟨rfl,rfl,rfl⟩
  repeat clear Zg
  exact br_x (bd_s4 mBr sBr.1 sBr.2)
theorem il_excK (hj:H[j]? = some (.fn qq pp bb ss cc aa)) (hw:Call g (n+1) false H (.ob j) [w] [] x H):Ex ⟨g,n+1,kOf dIl false N⟩ (sxL (.ob i) w (-1) hv (.ob j)) H dIl.body ⟨.exc H.length,sxL (.ob i) w (-1) hv (.ob j),H++[.exc "lo must be non-negative"]⟩:=by
  apply ex_exc
  apply st_f
  · repeat clear Zg
  · rfl
  apply ex_exc
  apply stx_assign
  · kernel_rfl
  apply evx_call
  · exact fun _ _=>rfl
  · exact fun _ _=>⟨rfl,rfl,rfl⟩
  repeat clear Zg
  exact bl_x (bd_sk4 mBl sBl.1 sBl.2)
theorem ir_excK (hj:H[j]? = some (.fn qq pp bb ss cc aa)) (hw:Call g (n+1) false H (.ob j) [w] [] x H):Ex ⟨g,n+1,kOf dIr false N⟩ (sxL (.ob i) w (-1) hv (.ob j)) H dIr.body ⟨.exc H.length,sxL (.ob i) w (-1) hv (.ob j),H++[.exc "lo must be non-negative"]⟩:=by
  apply ex_exc
  apply st_f
  · repeat clear Zg
  · rfl
  apply ex_exc
  apply stx_assign
  · kernel_rfl
  apply evx_call
  · exact fun _ _=>rfl
  · exact fun _ _=>⟨rfl,rfl,rfl⟩
  repeat clear Zg
  exact br_x (bd_sk4 mBr sBr.1 sBr.2)
theorem il_xN (hb:Bd g dIl args kws (srch (.ob i) x (.int (-1)) hv .none)):CallX g (n+2) false H (.top 41) args kws H.length (H++[.exc "lo must be non-negative"]):=by
  apply call0x mIl (by kernel_rfl) hb (by kernel_rfl)
  exact il_excN
theorem ir_xN (hb:Bd g dIr args kws (srch (.ob i) x (.int (-1)) hv .none)):CallX g (n+2) false H (.top 23) args kws H.length (H++[.exc "lo must be non-negative"]):=by
  apply call0x mIr (by kernel_rfl) hb (by kernel_rfl)
  exact ir_excN
theorem il_xK (hj:H[j]? = some (.fn qq pp bb ss cc aa)) (hw:Call g (n+1) false H (.ob j) [w] [] x H) (hb:Bd g dIl args kws (srch (.ob i) w (.int (-1)) hv (.ob j))):CallX g (n+2) false H (.top 41) args kws H.length (H++[.exc "lo must be non-negative"]):=by
  apply call0x mIl (by kernel_rfl) hb (by kernel_rfl)
  exact il_excK hj hw
theorem ir_xK (hj:H[j]? = some (.fn qq pp bb ss cc aa)) (hw:Call g (n+1) false H (.ob j) [w] [] x H) (hb:Bd g dIr args kws (srch (.ob i) w (.int (-1)) hv (.ob j))):CallX g (n+2) false H (.top 23) args kws H.length (H++[.exc "lo must be non-negative"]):=by
  apply call0x mIr (by kernel_rfl) hb (by kernel_rfl)
  exact ir_excK hj hw
end
section
variable {g:Gx} {n:Nat} {hd:Bool} {H:AHeap} {i j:Nat} {xs ys:List AV}
theorem c_concat (h1:H[i]? = some (.list xs)) (h2:H[j]? = some (.list ys)) (hl:(xs++ys).length≤1000):Call g (n+1) hd H (.top 85) [.ob i,.ob j] [] (.ob H.length) (H++[.list (xs++ys)]):=by
  apply call0 (in_tab 8 rfl) (by kernel_rfl) (bd_2 (n1:="a") (n2:="b") (in_tab 8 rfl) (by kernel_rfl) (by decide +kernel) (fun _ _ _ _ _ _ _=>by kernel_rfl)) (by kernel_rfl)
  repeat clear Zg
end
theorem st_as {c:Cx} {H H1 H2:AHeap} {l l1 l2:Loc} {st:Stmt} {f:AFlow} (h:St c l H st ⟨f,l1,H1⟩) (e1:l1=l2) (e2:H1=H2):St c l H st ⟨f,l2,H2⟩:=e1 ▸ e2 ▸ h
theorem ev_as {c:Cx} {H H1 H2:AHeap} {l:Loc} {e:Expr} {v v':AV} (h:Ev c l H e v H1) (e1:v=v') (e2:H1=H2):Ev c l H e v' H2:=e1 ▸ e2 ▸ h
section
variable {c:Cx} {g:Gx} {n:Nat} {hd:Bool} {H E H0 H1:AHeap} {l l1:Loc} {es:List Expr} {e e1 e2:Expr} {xs ys vs:List AV} {v:AV} {pos:Pos} {i j k m:Nat} {o:AObj} {params:Arguments} {body:Expr} {scope:Scope} {cl:List (Str × Nat)} {nm:Str} {d:List (Str × AV)}
theorem setk:(H++E).set (H.length+k) o=H++E.set k o:=by rw [List.set_append_right _ _ (Nat.le_add_right _ _),Nat.add_sub_cancel_left]
theorem set0:(H++E).set H.length o=H++E.set 0 o:=setk (k:=0)
theorem app3:H++E++H1=H++(E++H1):=List.append_assoc ..
theorem lenE:(H++E).length=H.length+E.length:=List.length_append
theorem ev_listE (hn:Plain es) (h:Es c l H0 es vs (H++E)) (hl:vs.length≤1000):Ev c l H0 (.List es pos) (.ob (H.length+E.length)) (H++(E++[.list vs])):=by
  rw [←app3,←lenE];exact ev_list hn h hl
theorem ev_tupE (hn:Plain es) (h:Es c l H0 es vs (H++E)) (hl:vs.length≤1000):Ev c l H0 (.Tuple es i pos) (.ob (H.length+E.length)) (H++(E++[.tup vs])):=by
  rw [←app3,←lenE];exact ev_tup hn h hl
theorem ev_lambdaE (hl:c.k.lam=true) (hd:∀ env,defaultsOf params env=([],[])) (hcl:closA scope.names c.k.cells []=some cl):Ev c l (H++E) (.Lambda params body scope pos) (.ob (H.length+E.length)) (H++(E++[.fn (c.k.qual ++ "<lambda>") params body scope cl none])):=by
  rw [←app3,←lenE];exact ev_lambda hl hd hcl
theorem b_catE (h1:(H++E)[i]? = some (.list xs)) (h2:(H++E)[j]? = some (.list ys)) (hl:(xs++ys).length≤1000):Bin g .Add (.ob i) (.ob j) (H++E) (.ob (H.length+E.length)) (H++(E++[.list (xs++ys)])):=by
  rw [←app3,←lenE];exact b_cat h1 h2 hl
theorem c_listE (h:(H++E)[i]? = some (.list xs)) (hl:xs.length≤1000):Call g n hd (H++E) (.ty "list") [.ob i] [] (.ob (H.length+E.length)) (H++(E++[.list xs])):=by
  rw [←app3,←lenE];exact c_list h hl
theorem b_repE {j:Int} (h1:(H++E)[i]? = some (.list xs)) (hj:Builtin.List.listFitsIndex j=true) (hl:xs.length * j.toNat≤1000):Bin g .Mult (.ob i) (.int j) (H++E) (.ob (H.length+E.length)) (H++(E++[.list (repA xs j.toNat)])):=by
  rw [←app3,←lenE];exact b_rep h1 hj hl
theorem sn_cellE {v0:Option AV} (h:c.k.scope.names.lookup nm=some .cell) (hc:c.k.cells.lookup nm=some (H.length+k)) (hv:E[k]? = some (.cell v0)):Sn c l (H++E) nm v l (H++E.set k (.cell (some v))):=by
  rw [←setk];exact SnB.up (sn_cell h hc (getK hv))
theorem sn_cell0 {v0:Option AV} (h:c.k.scope.names.lookup nm=some .cell) (hc:c.k.cells.lookup nm=some H.length) (hv:E[0]? = some (.cell v0)):Sn c l (H++E) nm v l (H++E.set 0 (.cell (some v))):=by
  rw [←set0];exact SnB.up (sn_cell h hc (get0 hv))
theorem st_swap2 {H2 H3:AHeap} {l2:Loc} {v1 v2:AV} {nm1 nm2:Str} {k i:Nat} {p1 p2 p3 pos:Pos} (h0:swapsWithSole [.Tuple [.Name nm1 p1,.Name nm2 p2] k p3] e pos.line (envS c.k.scope)=pure false) (h1:swappedStores [.Tuple [.Name nm1 p1,.Name nm2 p2] k p3] e (envS c.k.scope)=pure (some [nm1,nm2]))
    (h2:Ev c l H e (.ob i) H1) (h:H1[i]? = some (.tup [v1,v2])) (h3:Sn c l H1 nm2 v2 l1 H2) (h4:Sn c l1 H2 nm1 v1 l2 H3):St c l H (.Assign [.Tuple [.Name nm1 p1,.Name nm2 p2] k p3] e pos) ⟨.next,l2,H3⟩:=
  st_swap h0 h1 h2 h rfl (sns_cons h3 (sns_cons h4 sns_nil))
theorem as_attr_newE {q:Str} {p:Arguments} {bd:Expr} {sc:Scope} (h1:Ev c l H0 e (.ob (H.length+k)) (H++E)) (h:E[k]? = some (.fn q p bd sc cl none)) (hn:attrNames.contains nm=true) :
    As c l H0 (.Attribute e nm pos) v l (H++(E.set k (.fn q p bd sc cl (some (H.length+E.length)))++[.nsd [(nm,v)]])):=by
  rw [←app3,←setk,←lenE];exact as_attr_new h1 (getK h) hn
theorem as_attr_oldE {q:Str} {p:Arguments} {bd:Expr} {sc:Scope} (h1:Ev c l H0 e (.ob (H.length+k)) (H++E)) (h:E[k]? = some (.fn q p bd sc cl (some (H.length+m)))) (h2:E[m]? = some (.nsd d)) (hn:attrNames.contains nm=true) :
    As c l H0 (.Attribute e nm pos) v l (H++E.set m (.nsd (putD nm v d))):=by
  rw [←setk];exact as_attr_old h1 (getK h) (getK h2) hn
theorem mt_appendE (h:E[k]? = some (.list xs)) (hl:xs.length≤1000):Meth g (H++E) (H.length+k) "append" [v] (H++E.set k (.list (xs++[v]))):=by
  rw [←setk];exact mt_append (getK h) hl
theorem mt_appendI {ls:List Int} {x:Int} (h:E[k]? = some (.list (ls.map .int))) (hl:ls.length≤100):Meth g (H++E) (H.length+k) "append" [.int x] (H++E.set k (.list ((ls++[x]).map .int))):=by
  rw [List.map_append];exact mt_appendE h (by rw [List.length_map];exact le1000 hl)
end
theorem drop_c {α:Type} {l ys:List α} {k:Nat} {v:α} (h:l.drop k=v :: ys):l[k]? = some v∧l.drop (k+1)=ys:=
  ⟨by rw [←Nat.add_zero k,←List.getElem?_drop,h];rfl,by rw [←List.drop_drop,h];rfl⟩
theorem drop_n {α:Type} {l:List α} {k:Nat} (h:l.drop k=[]):l.length≤k:=List.drop_eq_nil_iff.mp h
theorem drop_m {α:Type} {l ys:List α} {k:Nat} {v:α} (h:l.drop k=v :: ys):v∈l:=List.mem_of_getElem? (drop_c h).1
section
variable {g:Gx} {n N:Nat} {hd:Bool} {H:AHeap} {i:Nat} {xs:List AV} {b:AV} {s:Nat→Bool}
theorem cnt1 {cnt:Int} {m:Nat}:cnt+1+(m:Int)=cnt+((m+1:Nat):Int):=by rw [Int.natCast_add,Int.add_assoc,Int.add_comm 1];rfl
theorem cnt0 {cnt:Int}:cnt+((0:Nat):Int)=cnt:=Int.add_zero cnt
noncomputable abbrev cnL (i:Nat) (b:AV) (cnt:Int):Loc:=[("a",.ob i),("b",b),("count",.int cnt)]
theorem cn_loop (hl:H[i]? = some (.list xs)) (hs:∀ k v,xs[k]? = some v→SameQ g H v b (s k)):∀ (ys:List AV) (k:Nat) (cnt:Int),xs.drop k=ys →
    Fr ⟨g,n,kOf dCount hd N⟩ (cnL i b cnt) H (forT (sAt dCount.body 1)) (.list i k) (whB (sAt dCount.body 1)) (forO (sAt dCount.body 1)) ⟨.next,[("count",.int (cnt+((List.range' k ys.length).countP s:Nat)))],H⟩:=by
  intro ys
  induction ys with
  | nil =>
    intro k cnt h
    apply fr_end (end_list hl (drop_n h))
    apply ex_weak (l1:=cnL i b cnt)
    · rw [List.length_nil,List.range'_zero,List.countP_nil,cnt0]
      exact fun nm v=>keep1 rfl
    · exact ex_nil
  | cons v ys ih =>
    intro k cnt h
    have e:=drop_c h
    have hq:=hs k v e.1
    rw [List.length_cons,List.range'_succ]
    cases hv:s k with
    | true =>
      rw [List.countP_cons_of_pos hv,←cnt1]
      apply fr_step
      · apply turn_list hl e.1 go_name
        repeat clear Zg
      · repeat clear Zg
      · exact fr_sub (sub_app (cnL i b (cnt+1)) [("i",v)]) (ih _ _ e.2)
    | false =>
      rw [List.countP_cons_of_neg (ne_true_of_eq_false hv)]
      apply fr_step
      · apply turn_list hl e.1 go_name
        repeat clear Zg
      · repeat clear Zg
      · exact fr_sub (sub_app (cnL i b cnt) [("i",v)]) (ih _ _ e.2)
theorem c_count (hl:H[i]? = some (.list xs)) (hs:∀ k v,xs[k]? = some v→SameQ g H v b (s k)):Call g (n+1) false H (.top 92) [.ob i,b] [] (.int ((List.range' 0 xs.length).countP s:Nat)) H:=by
  rw [←Int.zero_add (((List.range' 0 xs.length).countP s:Nat):Int)]
  apply call0 (in_tab 9 rfl) (by kernel_rfl) (bd_2 (n1:="a") (n2:="b") (in_tab 9 rfl) (by kernel_rfl) (by decide +kernel) (fun _ _ _ _ _ _ _=>by kernel_rfl)) (by kernel_rfl)
  repeat clear Zg
  · apply st_for (fun _ _=>rfl) rfl
    · apply it_list
      · repeat clear Zg
      · exact hl
    · exact cn_loop hl hs xs 0 0 rfl
  repeat clear Zg
noncomputable abbrev ixL (i:Nat) (b:AV):Loc:=[("a",.ob i),("b",b)]
theorem ix_found {p:Nat} {v:AV} (hl:H[i]? = some (.list xs)) (hp:xs[p]? = some v) (hv:SameQ g H v b true) (hb:∀ j u,j < p→xs[j]? = some u→SameQ g H u b false):∀ (r k:Nat),k+r=p→∃ l,
    Fr ⟨g,n,kOf dIndex hd N⟩ (ixL i b) H (forT (sAt dIndex.body 0)) (.enum i k) (whB (sAt dIndex.body 0)) (forO (sAt dIndex.body 0)) ⟨.ret (.int p),l,H⟩:=by
  intro r
  induction r with
  | zero =>
    intro k h
    obtain rfl:k=p:=h
    apply Exists.intro
    apply fr_ret
    · apply turn_enum hl hp
      repeat clear Zg
    · apply ex_ret
      repeat clear Zg
  | succ r ih =>
    intro k h
    have hk:k < p:=Nat.lt_of_lt_of_eq (Nat.lt_add_of_pos_right (Nat.succ_pos r)) h
    have e:=List.getElem?_eq_getElem (Nat.lt_trans hk (List.getElem?_eq_some_iff.mp hp).1)
    have hq:=hb _ _ hk e
    refine (ih (k+1) ((Nat.succ_add_eq_add_succ k r).trans h)).imp fun l q=>?_
    apply fr_step
    · apply turn_enum hl e
      repeat clear Zg
    · repeat clear Zg
    · exact fr_sub (sub_app (ixL i b) [("i",_),("j",_)]) q
theorem ix_none (hl:H[i]? = some (.list xs)) (hb:∀ u∈xs,SameQ g H u b false):∀ (ys:List AV) (k:Nat),xs.drop k=ys→∃ l,
    Fr ⟨g,n,kOf dIndex false N⟩ (ixL i b) H (forT (sAt dIndex.body 0)) (.enum i k) (whB (sAt dIndex.body 0)) (forO (sAt dIndex.body 0)) ⟨.exc H.length,l,H++[.exc "sequence.index(x): x not in sequence"]⟩:=by
  intro ys
  induction ys with
  | nil =>
    intro k h
    apply Exists.intro
    apply fr_end (end_enum hl (drop_n h))
    apply ex_exc
    apply st_raise
    · kernel_rfl
    · rfl
  | cons v ys ih =>
    intro k h
    have e:=drop_c h
    have hq:=hb v (drop_m h)
    refine (ih (k+1) e.2).imp fun l q=>?_
    apply fr_step
    · apply turn_enum hl e.1
      repeat clear Zg
    · repeat clear Zg
    · exact fr_sub (sub_app (ixL i b) [("i",_),("j",_)]) q
theorem c_index {p:Nat} {v:AV} (hl:H[i]? = some (.list xs)) (hp:xs[p]? = some v) (hv:SameQ g H v b true) (hb:∀ j u,j < p→xs[j]? = some u→SameQ g H u b false):Call g (n+1) false H (.top 99) [.ob i,b] [] (.int p) H:=by
  refine (ix_found (n:=n) (N:=H.length) (hd:=false) hl hp hv hb p 0 (Nat.zero_add p)).elim fun l q=>?_
  apply call0 (in_tab 10 rfl) (by kernel_rfl) (bd_2 (n1:="a") (n2:="b") (in_tab 10 rfl) (by kernel_rfl) (by decide +kernel) (fun _ _ _ _ _ _ _=>by kernel_rfl)) (by kernel_rfl)
  apply ex_ret
  apply st_for (fun _ _=>rfl) rfl
  · apply it_enum (fun _ _=>rfl) (by kernel_rfl)
    · repeat clear Zg
    · exact hl
  · exact q
theorem x_index (hl:H[i]? = some (.list xs)) (hb:∀ u∈xs,SameQ g H u b false):CallX g (n+1) false H (.top 99) [.ob i,b] [] H.length (H++[.exc "sequence.index(x): x not in sequence"]):=by
  refine (ix_none (n:=n) (N:=H.length) hl hb xs 0 rfl).elim fun l q=>?_
  apply call0x (in_tab 10 rfl) (by kernel_rfl) (bd_2 (n1:="a") (n2:="b") (in_tab 10 rfl) (by kernel_rfl) (by decide +kernel) (fun _ _ _ _ _ _ _=>by kernel_rfl)) (by kernel_rfl)
  apply ex_exc
  apply st_for (fun _ _=>rfl) rfl
  · apply it_enum (fun _ _=>rfl) (by kernel_rfl)
    · repeat clear Zg
    · exact hl
  · exact q
end
section
variable {c:Cx} {g:Gx} {n N:Nat} {hd:Bool} {H H1 H2 H3:AHeap} {i k a b:Nat} {xs:List AV} {l:Loc} {e e1 e2 e3:Expr} {pos a1 np:Pos}
theorem bound_nat {m:Nat}:kms_hi (some (k:Int)) m=min k m∧kms_lo (some (k:Int)) m=min k m:=
  ⟨if_neg (c:=(k:Int) < 0) (t:=m - (-(k:Int)).toNat) ge0,if_neg (c:=(k:Int) < 0) (t:=m - (-(k:Int)).toNat) ge0⟩
theorem drop_min:xs.drop (min a xs.length)=xs.drop a:=by
  by_cases h:a≤xs.length
  · rw [Nat.min_eq_left h]
  · rw [Nat.min_eq_right (Nat.le_of_not_le h),List.drop_length,List.drop_eq_nil_of_le (Nat.le_of_not_le h)]
theorem pick_hi:pickA xs none (some (k:Int))=xs.take k:=by
  unfold pickA
  rw [bound_nat.1]
  exact List.take_eq_take_min.symm
theorem pick_lo:pickA xs (some (k:Int)) none=xs.drop k:=by
  unfold pickA
  rw [bound_nat.2,drop_min]
  refine List.take_of_length_le ?_
  rw [List.length_drop]
  show xs.length - k≤xs.length - min k xs.length
  exact Nat.sub_le_sub_left (Nat.min_le_left _ _) _
theorem pick_two:pickA xs (some (a:Int)) (some (b:Int))=(xs.take b).drop a:=by
  unfold pickA
  rw [bound_nat.1,bound_nat.2,drop_min,List.drop_take,List.take_eq_take_iff,List.length_drop]
  by_cases h:a≤xs.length
  · rw [Nat.min_eq_left h]
    by_cases h2:b≤xs.length
    · rw [Nat.min_eq_left h2]
    · have h2:=Nat.le_of_not_le h2
      rw [Nat.min_eq_right h2,Nat.min_self,Nat.min_eq_right (Nat.sub_le_sub_right h2 a)]
  · rw [Nat.sub_eq_zero_of_le (Nat.le_of_not_le h),Nat.min_zero,Nat.min_zero]
theorem ev_slH (h1:Ev c l H e1 (.ob i) H1) (h2:Ev c l H1 e2 (.int k) H2) (h:ListQ H2 i xs) (hl:xs.length≤1000):Ev c l H (.Subscript e1 (.Slice none (some e2) none a1) pos) (.ob H2.length) (H2++[.list (xs.take k)]):=by
  rw [←pick_hi];apply ev_slice;exact h1;exact opt_none;apply opt_some;exact h2;exact .none;exact .int;exact h;exact hl
theorem ev_slL (h1:Ev c l H e1 (.ob i) H1) (h2:Ev c l H1 e2 (.int k) H2) (h:ListQ H2 i xs) (hl:xs.length≤1000):Ev c l H (.Subscript e1 (.Slice (some e2) none none a1) pos) (.ob H2.length) (H2++[.list (xs.drop k)]):=by
  rw [←pick_lo];apply ev_slice;exact h1;apply opt_some;exact h2;exact opt_none;exact .int;exact .none;exact h;exact hl
theorem ev_slT (h1:Ev c l H e1 (.ob i) H1) (h2:Ev c l H1 e2 (.int a) H2) (h3:Ev c l H2 e3 (.int b) H3) (h:ListQ H3 i xs) (hl:xs.length≤1000):Ev c l H (.Subscript e1 (.Slice (some e2) (some e3) none a1) pos) (.ob H3.length) (H3++[.list ((xs.take b).drop a)]):=by
  rw [←pick_two];apply ev_slice;exact h1;apply opt_some;exact h2;apply opt_some;exact h3;exact .int;exact .int;exact h;exact hl
theorem b_modN:Bin g .Mod (.int (a:Nat)) (.int ((b+1:Nat):Int)) H (.int ((a % (b+1):Nat):Int)) H:=by
  rw [Int.ofNat_fmod];exact b_mod (Int.natCast_pos.mpr (Nat.succ_pos b))
theorem toN63 (h:k≤1000):((k:Nat):Int) < 2 ^ 63:=Int.lt_trans (Int.ofNat_lt.mpr (Nat.lt_succ_of_le h)) (by decide)
theorem s_nat {v:AV} (h:H[i]? = some (.list xs)) (hl:xs.length≤1000) (hk:k < xs.length):SetI g H (.ob i) (.int (k:Nat)) v (H.set i (.list (xs.set k v))):=
  s_list h (Int.natCast_nonneg _) (toN63 (Nat.le_trans (Nat.le_of_lt hk) hl)) (Int.ofNat_lt.mpr hk)
theorem st_augN {cs:List Int} {q b':Int} (hi:∀ ov iv new,augStore e2 ov iv new=(do holding [new,ov,iv] (setItem ov iv new);release [new,ov,iv] [];pure .next)) (h1:Ev c l H e1 (.ob i) H) (h2:Ev c l H e2 (.int (k:Nat)) H) (hx:H[i]? = some (.list (cs.map .int))) (he:cs[k]? = some q) (hl:cs.length≤1000)
    (h3:Ev c l H e (.int b') H):St c l H (.AugAssign (.Subscript e1 e2 np) .Add e pos) ⟨.next,l,H.set i (.list ((cs.set k (q+b')).map .int))⟩:=by
  rw [List.map_set]
  have hk:=(List.getElem?_eq_some_iff.mp he).1
  apply st_augsub hi;exact h1;exact h2;exact hx;exact Int.natCast_nonneg _;exact toN63 (Nat.le_trans (Nat.le_of_lt hk) hl);exact (List.getElem?_map ..).trans (congrArg _ he);exact h3
  exact s_nat hx (by rw [List.length_map];exact hl) (by rw [List.length_map];exact hk)
theorem len1 {X:AObj}:(H++[X]).length=H.length+1:=List.length_append
theorem as_app {X Y:AObj}:H++[X]++[Y]=H++[X,Y]:=List.append_assoc ..
theorem ev_slHE {E:AHeap} (h1:Ev c l H e1 (.ob i) H1) (h2:Ev c l H1 e2 (.int k) (H2++E)) (h:ListQ (H2++E) i xs) (hl:xs.length≤1000):Ev c l H (.Subscript e1 (.Slice none (some e2) none a1) pos) (.ob (H2.length+E.length)) (H2++(E++[.list (xs.take k)])):=by
  rw [←app3,←lenE];exact ev_slH h1 h2 h hl
theorem ev_slLE {E:AHeap} (h1:Ev c l H e1 (.ob i) H1) (h2:Ev c l H1 e2 (.int k) (H2++E)) (h:ListQ (H2++E) i xs) (hl:xs.length≤1000):Ev c l H (.Subscript e1 (.Slice (some e2) none none a1) pos) (.ob (H2.length+E.length)) (H2++(E++[.list (xs.drop k)])):=by
  rw [←app3,←lenE];exact ev_slL h1 h2 h hl
theorem ev_slHZ {E:AHeap} {z:Int} (h1:Ev c l H e1 (.ob i) H1) (h2:Ev c l H1 e2 (.int z) (H2++E)) (hz:0≤z) (h:ListQ (H2++E) i xs) (hl:xs.length≤1000):Ev c l H (.Subscript e1 (.Slice none (some e2) none a1) pos) (.ob (H2.length+E.length)) (H2++(E++[.list (xs.take z.toNat)])):=by
  obtain ⟨k,rfl⟩:=Int.eq_ofNat_of_zero_le hz
  exact ev_slHE h1 h2 h hl
theorem ev_slLZ {E:AHeap} {z:Int} (h1:Ev c l H e1 (.ob i) H1) (h2:Ev c l H1 e2 (.int z) (H2++E)) (hz:0≤z) (h:ListQ (H2++E) i xs) (hl:xs.length≤1000):Ev c l H (.Subscript e1 (.Slice (some e2) none none a1) pos) (.ob (H2.length+E.length)) (H2++(E++[.list (xs.drop z.toNat)])):=by
  obtain ⟨k,rfl⟩:=Int.eq_ofNat_of_zero_le hz
  exact ev_slLE h1 h2 h hl
end
section
variable {g:Gx} {n N:Nat} {hd:Bool} {H:AHeap} {i:Nat} {l:List Int}
noncomputable abbrev ceL (i j:Nat):Loc:=[("script",.ob i),("cells",.ob j)]
noncomputable abbrev ceH (H:AHeap) (cs l:List Int):AHeap:=H++[.list (cs.map .int),.list (l.map .int)]
theorem get16 {cs:List Int} {k:Nat} (h:cs.length=16):∃ q,cs[k % 16]? = some q:=⟨_,List.getElem?_eq_getElem (Nat.lt_of_lt_of_eq (Nat.mod_lt k (show 0 < 16 by decide)) h.symm)⟩
theorem ce_loop:∀ (ys:List Int) (k:Nat) (cs:List Int),cs.length=16→l.drop k=ys→∃ cs':List Int,cs'.length=16 ∧
    Fr ⟨g,n,kOf dCells false N⟩ (ceL i H.length) (ceH H cs l) (forT (sAt dCells.body 1)) (.enum (H.length+1) k) (whB (sAt dCells.body 1)) (forO (sAt dCells.body 1)) ⟨.next,ceL i H.length,ceH H cs' l⟩:=by
  intro ys
  induction ys with
  | nil =>
    intro k cs h16 h
    refine ⟨cs,h16,?_⟩
    apply fr_end
    · apply end_enum (getK rfl)
      rw [List.length_map];exact drop_n h
    · exact ex_nil
  | cons y ys ih =>
    intro k cs h16 h
    have e:=drop_c h
    refine (get16 (k:=k) h16).elim fun q hq=>?_
    refine (ih (k+1) (cs.set (k % 16) (q+y)) (by rw [List.length_set];exact h16) e.2).imp fun cs' w=>⟨w.1,?_⟩
    have hs:(ceH H cs l).set H.length (.list ((cs.set (k % 16) (q+y)).map .int))=ceH H (cs.set (k % 16) (q+y)) l:=set0
    apply fr_step
    · apply turn_enum (getK rfl)
      · exact (List.getElem?_map ..).trans (congrArg _ e.1)
      · repeat clear Zg
    · apply ex_cons
      · apply st_augN
        · exact fun _ _ _=>rfl
        · clear Zg
        · apply ev_bin
          · clear Zg
          · exact ev_int
          · exact b_modN
        · exact get0 rfl
        · exact hq
        · rw [h16];decide
        · clear Zg
      · exact ex_nil
    · rw [hs]
      exact fr_sub (sub_app (ceL i H.length) [("place",_),("number",_)]) w.2
theorem c_cells (hq:ListQ H i (l.map .int)) (hl:l.length≤63):∃ cs:List Int,cs.length=16∧Call g (n+1) false H (.top 173) [.ob i] [] (.ob H.length) (ceH H cs (l.take 60)):=by
  refine (ce_loop (g:=g) (n:=n) (N:=H.length) (H:=H) (i:=i) (l.take 60) 0 [1,11,0,5,1,1,1,2,0,0,2,1,2,0,2,4] rfl rfl).imp fun cs w=>⟨w.1,?_⟩
  have h3:ListQ (H++[.list (([1,11,0,5,1,1,1,2,0,0,2,1,2,0,2,4]:List Int).map .int)]) i (l.map .int):=hq.imp getOld fun q=>q.imp fun _=>getOld
  apply call0 (d:=dCells) (in_tab 22 rfl) (by kernel_rfl) (bd_1 (n1:="script") (in_tab 22 rfl) (by kernel_rfl) (by decide +kernel) (fun _ _ _ _ _ _=>by kernel_rfl)) (by kernel_rfl)
  repeat clear Zg
  · apply st_for
    · exact fun _ _=>rfl
    · rfl
    · apply it_enum
      · exact fun _ _=>rfl
      · kernel_rfl
      · apply ev_slH
        · clear Zg
        · exact ev_int
        · exact h3
        · rw [List.length_map];exact Nat.le_trans hl (by decide)
      · rw [←List.map_take];exact get_last
    · rw [←List.map_take,as_app,len1];exact w.2
  repeat clear Zg
end
section
variable {g:Gx} {H:AHeap} {a b k i:Nat} {xs:List Int} {y:Int} {zs:List Int}
theorem b_addN:Bin g .Add (.int (a:Nat)) (.int (b:Nat)) H (.int ((a+b:Nat):Int)) H:=b_add
theorem b_subN (h:b≤a):Bin g .Sub (.int (a:Nat)) (.int (b:Nat)) H (.int ((a - b:Nat):Int)) H:=Int.ofNat_sub h ▸ b_sub
theorem i_byt (hl:xs.length < 100) (e:xs[k]? = some y):Idx g H (.bytes xs) (.int (k:Nat)) (.int y):=i_bytes (Int.natCast_nonneg _) (Nat.lt_trans hl (by decide)) e
theorem s_barN (h:H[i]? = some (.barr zs)) (hk:k < zs.length) (hl:zs.length < 100) (hy:0≤y∧y < 256):SetI g H (.ob i) (.int (k:Nat)) (.int y) (H.set i (.barr (zs.set k y))):=
  s_barr h (Int.natCast_nonneg _) hk (Nat.le_trans (Nat.le_of_lt hl) (by decide)) hy.1 hy.2
noncomputable def blk (ys:List Int) (w a:Nat) (zs:List Int):List Int:=(List.range' 0 w).foldl (fun z t=>z.set (a+w - 1 - t) (ys[a+t]?.getD 0)) zs
noncomputable def blks (ys:List Int) (w:Nat):Nat→Nat→List Int→List Int
  | 0,_,zs=>zs
  | q + 1,a,zs=>blks ys w q (a+w) (blk ys w a zs)
theorem foldl_set_length {β:Type} (f:β→Nat) (g:β→Int):∀ (l:List β) (zs:List Int),(l.foldl (fun z t=>z.set (f t) (g t)) zs).length=zs.length
  | [],_=>rfl
  | t :: r,zs=>by rw [List.foldl_cons,foldl_set_length f g r,List.length_set]
theorem blk_length (ys:List Int) (w a:Nat) (zs:List Int):(blk ys w a zs).length=zs.length:=foldl_set_length _ _ _ _
theorem rangeN_one (w:Nat) (h:0 < w):rangeN 0 (w:Int) 1=w:=by
  unfold rangeN
  rw [if_pos (Int.natCast_pos.mpr h)]
  omega
theorem rangeN_mul (q w:Nat) (h:0 < w):rangeN 0 ((q * w:Nat):Int) (w:Int)=q:=by
  unfold rangeN
  cases q with
  | zero=>simp
  | succ q =>
    have hp:0 < (q+1) * w:=Nat.mul_pos (Nat.succ_pos _) h
    rw [if_pos (by omega)]
    have e:(((q+1) * w:Nat):Int) - 0 - 1=((q * w+(w - 1):Nat):Int):=by
      rw [Nat.succ_mul];omega
    rw [e]
    have:((q * w+(w - 1):Nat):Int) / (w:Int)=((((q * w+(w - 1)) / w:Nat)):Int):=rfl
    have e2:(q * w+(w - 1)) / w=q:=by rw [Nat.add_comm,Nat.add_mul_div_right _ _ h,Nat.div_eq_of_lt (by omega),Nat.zero_add]
    rw [this,Int.toNat_natCast,e2]
theorem swap_ix {a w j r n:Nat} (h:j+(r+1)=w) (hw:a+w≤n):1≤a+w∧j≤a+w - 1∧a+w - 1 - j < n∧a+j < n∧j+1+r=w:=by omega
end
section
variable {g:Gx} {n N:Nat} {H:AHeap} {ys:List Int} {w a:Nat}
noncomputable abbrev swL (ys:List Int) (w i:Nat):Loc:=[("data",.bytes ys),("width",.int w),("swapped_data",.ob i)]
noncomputable abbrev swI (ys:List Int) (w i a:Nat):Loc:=[("data",.bytes ys),("width",.int w),("swapped_data",.ob i),("i",.int a)]
noncomputable abbrev swO:Stmt:=sAt dSwap.body 1
noncomputable abbrev swS:Stmt:=sAt (whB swO) 0
theorem sw_in (hw : a+w≤ys.length) (hl:ys.length < 100) (hr:∀ y∈ys,0≤y∧y < 256):∀ (r j:Nat) (zs:List Int),zs.length=ys.length→j+r=w →
    Fr ⟨g,n,kOf dSwap false N⟩ (swI ys w H.length a) (H++[.barr zs]) (forT swS) (.range j 1 r) (whB swS) (forO swS) ⟨.next,swI ys w H.length a,H++[.barr ((List.range' j r).foldl (fun z t=>z.set (a+w - 1 - t) (ys[a+t]?.getD 0)) zs)]⟩:=by
  intro r
  induction r with
  | zero=>exact fun j zs h1 h2=>fr_end end_range ex_nil
  | succ r ih =>
    intro j zs h1 h2
    have hx:=swap_ix h2 hw
    have hj:=List.getElem?_eq_getElem hx.2.2.2.1
    have hy:=hr _ (List.mem_of_getElem? hj)
    rw [List.range'_succ,List.foldl_cons]
    have e:ys[a+j]?.getD 0=ys[a+j]:=by rw [hj];rfl
    rw [e]
    apply fr_step
    · apply turn_range go_name
      repeat clear Zg
    · clear Zg
      clear Zg
      · apply st_assign
        · kernel_rfl
        · kernel_rfl
        · exact fun _ _=>rfl
        · apply ev_idx (fun _ _=>rfl)
          · clear Zg
          · apply ev_bin
            · clear Zg
            · clear Zg
            · exact b_addN
          · exact i_byt hl hj
        · apply as_sub
          · clear Zg
          · apply ev_bin
            · apply ev_bin
              · apply ev_bin
                · clear Zg
                · clear Zg
                · exact b_addN
              · exact ev_int
              · exact b_subN (b:=1) hx.1
            · clear Zg
            · exact b_subN hx.2.1
          · exact s_barN get_last (Nat.lt_of_lt_of_eq hx.2.2.1 h1.symm) (Nat.lt_of_le_of_lt (Nat.le_of_eq h1) hl) hy
      · exact ex_nil
    · rw [put_last]
      exact fr_sub (sub_app (swI ys w H.length a) [("j",_)]) (ih (j+1) _ (List.length_set.trans h1) hx.2.2.2.2)
theorem sw_out (h0:0 < w) (hw5:w < 100) (hl:ys.length < 100) (hr:∀ y∈ys,0≤y∧y < 256):∀ (q a:Nat) (zs:List Int),zs.length=ys.length→a+q * w=ys.length →
    Fr ⟨g,n,kOf dSwap false N⟩ (swL ys w H.length) (H++[.barr zs]) (forT swO) (.range a w q) (whB swO) (forO swO) ⟨.next,swL ys w H.length,H++[.barr (blks ys w q a zs)]⟩:=by
  intro q
  induction q with
  | zero=>exact fun a zs h1 h2=>fr_end end_range ex_nil
  | succ q ih =>
    intro a zs h1 h2
    have h3:a+w+q * w=ys.length:=by rw [←h2,Nat.succ_mul,Nat.add_assoc,Nat.add_comm w]
    apply fr_step
    · apply turn_range go_name
      repeat clear Zg
    · clear Zg
      clear Zg
      · apply st_for (fun _ _=>rfl) rfl
        · apply it_range1 (fun _ _=>rfl) (by kernel_rfl)
          · clear Zg
          · exact ⟨⟨by decide,by decide⟩,Int.natCast_nonneg _,Int.ofNat_lt.mpr (Nat.lt_trans hw5 (by decide))⟩
        · rw [rangeN_one w h0]
          exact sw_in (Nat.le_of_add_right_le (Nat.le_of_eq h3)) hl hr w 0 zs h1 (Nat.zero_add w)
      · exact ex_nil
    · exact fr_sub (sub_app (swL ys w H.length) [("i",_)]) (ih (a+w) _ ((blk_length ys w a zs).trans h1) h3)
theorem swap_len {q:Nat} (hq:ys.length=q * w) (hl:ys.length < 100):lim3 0 (ys.length:Nat):=⟨⟨by decide,by decide⟩,Int.natCast_nonneg _,Int.ofNat_lt.mpr (Nat.lt_trans hl (by decide))⟩
theorem blks_length (ys:List Int) (w:Nat):∀ (q a:Nat) (zs:List Int),(blks ys w q a zs).length=zs.length
  | 0,_,_=>rfl
  | q + 1,a,zs=>by rw [blks,blks_length ys w q,blk_length]
theorem c_swap {q:Nat} (h0:0 < w) (hw5:w < 100) (hq:ys.length=q * w) (hl:ys.length < 100) (hr:∀ y∈ys,0≤y∧y < 256) :
    Call g (n+1) false H (.top 106) [.bytes ys,.int w] [] (.bytes (blks ys w q 0 (List.replicate ys.length 0))) (H++[.barr (blks ys w q 0 (List.replicate ys.length 0))]):=by
  apply call0 (d:=dSwap) (in_tab 11 rfl) (by kernel_rfl) (bd_2 (n1:="data") (n2:="width") (in_tab 11 rfl) (by kernel_rfl) (by decide +kernel) (fun _ _ _ _ _ _ _=>by kernel_rfl)) (by kernel_rfl)
  repeat clear Zg
  · exact c_lenb (Nat.lt_trans hl (by decide))
  repeat clear Zg
  · exact c_barr (Int.natCast_nonneg _) (Int.ofNat_lt.mpr hl)
  repeat clear Zg
  · apply st_for (fun _ _=>rfl) rfl
    · apply it_range3 (fun _ _=>rfl) (by kernel_rfl)
      · exact ev_int
      · repeat clear Zg
        · exact c_lenb (Nat.lt_trans hl (by decide))
      · clear Zg
      · exact swap_len hq hl
      · exact Int.natCast_pos.mpr h0
      · exact Int.ofNat_lt.mpr (Nat.lt_trans hw5 (by decide))
    · rw [hq,rangeN_mul q w h0,←hq]
      exact sw_out h0 hw5 hl hr q 0 _ List.length_replicate ((Nat.zero_add _).trans hq.symm)
  repeat clear Zg
  · exact c_bba get_last (Nat.le_trans (Nat.le_of_eq ((blks_length ..).trans List.length_replicate)) (Nat.le_trans (Nat.le_of_lt hl) (by decide)))
end
section
variable {g:Gx} {n N:Nat} {hd:Bool} {H H1 H2 E:AHeap} {l2:Loc} {args:List AV} {kws binds:List (Str × AV)} {d:FD} {v v' tg at_:AV}
theorem call1 (hm:d∈defTab) (hc:cellsN d.scope.names=E) (hb:Bd g d args kws binds) (hl:(binds.all fun p=>d.scope.names.lookup p.1 == some .local)=true)
    (hx:Ex ⟨g,n,kOf d hd H.length⟩ (binds.foldl (fun l p=>upd p.1 p.2 l) []) (H++E) d.body ⟨.ret v,l2,H2⟩):Call g (n+1) hd H (.top d.addr) args kws v H2:=by
  apply call_ret hm hb (l1:=binds.foldl (fun l p=>upd p.1 p.2 l) []) (H1:=H++E)
  · rw [hc];apply bs_loc;exact hl
  · exact hx
theorem call_cast {f:AV} (h:Call g n hd H f args kws v H1) (e:v=v') (e2:H1=H2):Call g n hd H f args kws v' H2:=e ▸ e2 ▸ h
noncomputable def mkLam (e:Expr) (q:Str) (cl:List (Str × Nat)) (at_:Option Nat):AObj:=match e with
  | .Lambda ps b s _=>.fn q ps b s cl at_
  | _ => .cell none
noncomputable def asgV:Stmt→Expr | .Assign _ v _=>v | _=>default
noncomputable def eltN (e:Expr) (i:Nat):Expr:=match e with
  | .Tuple es _ _=>es[i]?.getD default
  | _ => default
noncomputable def thApp (i:Nat):AObj:=mkLam (asgV (sAt dThing.body 4)) (dThing.name ++ ".<locals>." ++ "<lambda>") [("kids",i)] none
noncomputable def thFn (d:Nat):AObj:=mkLam (eltN (asgV (sAt dThing.body 0)) 1) (dThing.name ++ ".<locals>." ++ "<lambda>") [] (some d)
noncomputable def thNs (i:Nat) (tg at_:AV):List (Str × AV):=[("tag",tg),("attrib",at_),("kids",.ob (i+1)),("append",.ob (i+5)),("makeelement",.top 129)]
noncomputable def thE (i:Nat) (tg at_:AV):AHeap:=[.cell (some (.ob (i+1))),.list [],thFn (i+4),.tup [.ob (i+1),.ob (i+2)],.nsd (thNs i tg at_),thApp i]
theorem c_thing:Call g (n+1) hd H (.top 129) [tg,at_] [] (.ob (H.length+2)) (H++thE H.length tg at_):=by
  apply call1 (d:=dThing) (E:=[.cell none]) (in_tab 14 rfl) (by kernel_rfl) (bd_2 (n1:="tag") (n2:="attrib") (in_tab 14 rfl) (by kernel_rfl) (by decide +kernel) (fun _ _ _ _ _ _ _=>by kernel_rfl)) (by kernel_rfl)
  repeat clear Zg
  exact ev_loc (by kernel_rfl) rfl
end
section
variable {e:Nat→Int} {x:Int} {r:Nat}
theorem mid_ge {lo hi:Nat} (h:lo < hi):lo≤(lo+hi) / 2:=by omega
theorem bsl_at:∀ (f lo hi:Nat),lo≤r→r≤hi→hi - lo≤f→(∀ m,lo≤m→m < hi→(e m < x↔m < r))→bsl e x f lo hi=r
  | 0,lo,hi,h1,h2,h3,_=>Nat.le_antisymm h1 (Nat.le_trans h2 (Nat.le_of_sub_eq_zero (Nat.le_zero.mp h3)))
  | f + 1,lo,hi,h1,h2,h3,h=>by
    unfold bsl
    by_cases hl:lo < hi
    · have hm:=h _ (mid_ge hl) (mid_lt hl (Nat.le_refl _)).1
      have hf:=mid_f hl h3
      rw [if_pos hl]
      by_cases hc:e ((lo+hi) / 2) < x
      · rw [if_pos hc]
        exact bsl_at f _ _ (hm.mp hc) h2 hf.1 fun m l1 l2=>h m (Nat.le_trans (mid_ge hl) (Nat.le_of_succ_le l1)) l2
      · rw [if_neg hc]
        exact bsl_at f _ _ h1 (Nat.not_lt.mp fun q=>hc (hm.mpr q)) hf.2 fun m l1 l2=>h m l1 (Nat.lt_trans l2 (mid_lt hl (Nat.le_refl _)).1)
    · rw [if_neg hl];exact Nat.le_antisymm h1 (Nat.le_trans h2 (Nat.not_lt.mp hl))
theorem bsr_at:∀ (f lo hi:Nat),lo≤r→r≤hi→hi - lo≤f→(∀ m,lo≤m→m < hi→(e m≤x↔m < r))→bsr e x f lo hi=r
  | 0,lo,hi,h1,h2,h3,_=>Nat.le_antisymm h1 (Nat.le_trans h2 (Nat.le_of_sub_eq_zero (Nat.le_zero.mp h3)))
  | f + 1,lo,hi,h1,h2,h3,h=>by
    unfold bsr
    by_cases hl:lo < hi
    · have hm:=h _ (mid_ge hl) (mid_lt hl (Nat.le_refl _)).1
      have hf:=mid_f hl h3
      rw [if_pos hl]
      by_cases hc:x < e ((lo+hi) / 2)
      · rw [if_pos hc]
        exact bsr_at f _ _ h1 (Nat.not_lt.mp fun q=>Int.not_le.mpr hc (hm.mpr q)) hf.2 fun m l1 l2=>h m l1 (Nat.lt_trans l2 (mid_lt hl (Nat.le_refl _)).1)
      · rw [if_neg hc]
        exact bsr_at f _ _ (hm.mp (Int.not_lt.mp hc)) h2 hf.1 fun m l1 l2=>h m (Nat.le_trans (mid_ge hl) (Nat.le_of_succ_le l1)) l2
    · rw [if_neg hl];exact Nat.le_antisymm h1 (Nat.le_trans h2 (Nat.not_lt.mp hl))
end
noncomputable def sortInsL {β:Type} (k:Int) (v:β):List (Int × β)→List (Int × β)
  | []=>[(k,v)]
  | (l,u) :: r=>if l < k then (l,u) :: sortInsL k v r else (k,v) :: (l,u) :: r
section
variable {β:Type}
noncomputable def posL (k:Int):List (Int × β)→Nat
  | []=>0
  | p :: r=>if p.1 < k then posL k r+1 else 0
noncomputable def posR (k:Int):List (Int × β)→Nat
  | []=>0
  | p :: r=>if k < p.1 then 0 else posR k r+1
noncomputable abbrev Srt (ps:List (Int × β)):Prop:=ps.Pairwise fun a b=>a.1≤b.1
noncomputable def keyAt (ps:List (Int × β)) (m:Nat):Int:=((ps[m]?).map (·.1)).getD 0
theorem posL_le (k:Int):∀ ps:List (Int × β),posL k ps≤ps.length
  | []=>Nat.le_refl _
  | p :: r=>by rw [posL];split <;> simp;exact posL_le k r
theorem posR_le (k:Int):∀ ps:List (Int × β),posR k ps≤ps.length
  | []=>Nat.le_refl _
  | p :: r=>by rw [posR];split <;> simp;exact posR_le k r
theorem posL_iff (k:Int):∀ {ps:List (Int × β)},Srt ps→∀ m,m < ps.length→(keyAt ps m < k↔m < posL k ps)
  | [],_,_,h=>absurd h (Nat.not_lt_zero _)
  | p :: r,s,m,h=>by
    obtain ⟨s1,s2⟩:=List.pairwise_cons.mp s
    cases m with
    | zero=>simp only [keyAt,posL];split <;> simp_all
    | succ m =>
      have hm:m < r.length:=by simpa using h
      have ih:=posL_iff k s2 m hm
      have e:keyAt (p :: r) (m+1)=keyAt r m:=by simp [keyAt]
      have e2:p.1≤keyAt r m:=by
        have:=s1 _ (List.getElem_mem hm)
        simpa [keyAt,List.getElem?_eq_getElem hm] using this
      rw [e,posL];split <;> omega
theorem posR_iff (k:Int):∀ {ps:List (Int × β)},Srt ps→∀ m,m < ps.length→(keyAt ps m≤k↔m < posR k ps)
  | [],_,_,h=>absurd h (Nat.not_lt_zero _)
  | p :: r,s,m,h=>by
    obtain ⟨s1,s2⟩:=List.pairwise_cons.mp s
    cases m with
    | zero=>simp only [keyAt,posR];split <;> simp_all <;> omega
    | succ m =>
      have hm:m < r.length:=by simpa using h
      have ih:=posR_iff k s2 m hm
      have e:keyAt (p :: r) (m+1)=keyAt r m:=by simp [keyAt]
      have e2:p.1≤keyAt r m:=by
        have:=s1 _ (List.getElem_mem hm)
        simpa [keyAt,List.getElem?_eq_getElem hm] using this
      rw [e,posR];split <;> omega
theorem sortInsL_eq (k:Int) (v:β):∀ ps:List (Int × β),sortInsL k v ps=ps.take (posL k ps)++(k,v) :: ps.drop (posL k ps)
  | []=>rfl
  | (l,u) :: r=>by
    rw [sortInsL,posL];split
    · rw [sortInsL_eq k v r];rfl
    · rfl
theorem sortIns_eq (k:Int) (v:β):∀ ps:List (Int × β),sortIns k v ps=ps.take (posR k ps)++(k,v) :: ps.drop (posR k ps)
  | []=>rfl
  | (l,u) :: r=>by
    rw [sortIns,posR];split
    · rfl
    · rw [sortIns_eq k v r];rfl
theorem mem_sortIns {k:Int} {v:β} {p:Int × β}:∀ {ps:List (Int × β)},p∈sortIns k v ps↔p=(k,v)∨p∈ps
  | []=>by simp [sortIns]
  | (l, u) :: r=>by
    rw [sortIns];split
    · simp
    · simp [mem_sortIns (ps:=r)]
      constructor
      · rintro (h | h | h) <;> simp [h]
      · rintro (h | h | h) <;> simp [h]
@[simp] theorem len_sortIns {k:Int} {v:β}:∀ {ps:List (Int × β)},(sortIns k v ps).length=ps.length+1
  | []=>rfl
  | (l,u) :: r=>by rw [sortIns];split <;> simp [len_sortIns (ps:=r)]
@[simp] theorem len_sortInsL {k:Int} {v:β}:∀ {ps:List (Int × β)},(sortInsL k v ps).length=ps.length+1
  | []=>rfl
  | (l,u) :: r=>by rw [sortInsL];split <;> simp [len_sortInsL (ps:=r)]
theorem srt_sortIns {k:Int} {v:β}:∀ {ps:List (Int × β)},Srt ps→Srt (sortIns k v ps)
  | [],_=>by simp [sortIns]
  | (l, u) :: r,h=>by
    obtain ⟨h1,h2⟩:=List.pairwise_cons.mp h
    rw [sortIns];split
    · refine List.pairwise_cons.mpr ⟨fun p hp=>?_,h⟩
      rcases List.mem_cons.mp hp with rfl | hp
      · simp;omega
      · have:=h1 p hp;simp at this ⊢;omega
    · refine List.pairwise_cons.mpr ⟨fun p hp=>?_,srt_sortIns h2⟩
      rcases mem_sortIns.mp hp with rfl | hp
      · simp;omega
      · exact h1 p hp
theorem ins_comm {k k':Int} {v v':β}:∀ ps:List (Int × β),sortInsL k v (sortIns k' v' ps)=sortIns k' v' (sortInsL k v ps)
  | []=>by simp only [sortIns,sortInsL]
  | (l,u) :: r=>by
    have ih:=ins_comm (k:=k) (k':=k') (v:=v) (v':=v') r
    by_cases h1:k' < l <;> by_cases h2:l < k <;> by_cases h3:k' < k <;> simp [sortIns,sortInsL,h1,h2,h3,ih] <;> omega
end
section
variable {g:Gx} {n:Nat} {hd:Bool} {H:AHeap} {i j:Nat} {ps:List (Int × AV)} {k:Int} {w:AV}
noncomputable def IsFn (H:AHeap) (j:Nat):Prop:=∃ q p b s c a,H[j]? = some (.fn q p b s c a)
structure Keyed (g:Gx) (n:Nat) (hd:Bool) (H:AHeap) (j:Nat) (ps:List (Int × AV)):Prop where
  fn:IsFn H j
  call:∀ p∈ps,Call g n hd H (.ob j) [p.2] [] (.int p.1) H
theorem ps_at {m:Nat} (l:m < (ps.map (·.2)).length):∃ p∈ps,(ps.map (·.2))[m]? = some p.2∧keyAt ps m=p.1:=
  have l':m < ps.length:=List.length_map (as:=ps) (·.2) ▸ l
  ⟨ps[m],List.getElem_mem l',(List.getElem?_map ..).trans (congrArg _ (List.getElem?_eq_getElem l')),by unfold keyAt;rw [List.getElem?_eq_getElem l'];rfl⟩
theorem Keyed.at (h:Keyed g n hd H j ps) (m:Nat) (l:m < (ps.map (·.2)).length):∃ v,(ps.map (·.2))[m]? = some v∧Call g n hd H (.ob j) [v] [] (.int (keyAt ps m)) H:=
  (ps_at l).elim fun p q=>⟨p.2,q.2.1,q.2.2 ▸ h.call p q.1⟩
theorem ins_map {p:Nat}:insAt (ps.map (·.2)) p w=(ps.take p++(k,w) :: ps.drop p).map (·.2):=by
  unfold insAt;rw [List.map_append,List.map_cons,List.map_take,List.map_drop]
theorem bsl_pos (so:Srt ps):bsl (keyAt ps) k (ps.map (·.2)).length 0 (ps.map (·.2)).length=posL k ps:=by
  rw [List.length_map];exact bsl_at _ _ _ (Nat.zero_le _) (posL_le k ps) (Nat.sub_le _ _) fun m _ l=>posL_iff k so m l
theorem bsr_pos (so:Srt ps):bsr (keyAt ps) k (ps.map (·.2)).length 0 (ps.map (·.2)).length=posR k ps:=by
  rw [List.length_map];exact bsr_at _ _ _ (Nat.zero_le _) (posR_le k ps) (Nat.sub_le _ _) fun m _ l=>posR_iff k so m l
theorem le100 (hs:ps.length≤20):(ps.map (·.2)).length≤100:=by rw [List.length_map];exact Nat.le_trans hs (by decide)
theorem c_insL (hl:H[i]? = some (.list (ps.map (·.2)))) (hs:ps.length≤20) (so:Srt ps) (h:Keyed g n hd H j ps) (hw:Call g (n+1) hd H (.ob j) [w] [] (.int k) H) :
    Call g (n+2) hd H (.top 41) [.ob i,w] [("key",.ob j)] .none (H.set i (.list ((sortInsL k w ps).map (·.2)))):=by
  obtain ⟨q,p,b,s,c,a,hj⟩:=h.fn
  have r:=il_K (lo:=0) (bd_sk2 mIl sIl.1 sIl.2) hl (le100 hs) hj hw h.at .none (Nat.zero_le _)
  rw [bsl_pos so,ins_map (k:=k),←sortInsL_eq] at r
  exact r
theorem c_insR (hl:H[i]? = some (.list (ps.map (·.2)))) (hs:ps.length≤20) (so:Srt ps) (h:Keyed g n hd H j ps) (hw:Call g (n+1) hd H (.ob j) [w] [] (.int k) H) :
    Call g (n+2) hd H (.top 23) [.ob i,w] [("key",.ob j)] .none (H.set i (.list ((sortIns k w ps).map (·.2)))):=by
  obtain ⟨q,p,b,s,c,a,hj⟩:=h.fn
  have r:=ir_K (lo:=0) (bd_sk2 mIr sIr.1 sIr.2) hl (le100 hs) hj hw h.at .none (Nat.zero_le _)
  rw [bsr_pos so,ins_map (k:=k),←sortIns_eq] at r
  exact r
structure Selfs (ps:List (Int × AV)):Prop where
  srt:Srt ps
  slf:∀ p∈ps,p.2 = .int p.1
theorem Selfs.at (h:Selfs ps) (m:Nat) (l:m < (ps.map (·.2)).length):(ps.map (·.2))[m]? = some (.int (keyAt ps m)):=
  (ps_at l).elim fun p q=>q.2.1.trans (by rw [h.slf p q.1,q.2.2])
theorem c_ins1L (hl:H[i]? = some (.list (ps.map (·.2)))) (hs:ps.length≤20) (h:Selfs ps):Call g (n+2) hd H (.top 41) [.ob i,.int k] [] .none (H.set i (.list ((sortInsL k (.int k) ps).map (·.2)))):=by
  have r:=il_N (g:=g) (n:=n) (hd:=hd) (lo:=0) (x:=k) (bd_s2 mIl sIl.1 sIl.2) hl (le100 hs) h.at .none (Nat.zero_le _)
  rw [bsl_pos h.srt,ins_map (k:=k),←sortInsL_eq] at r
  exact r
theorem c_ins1R (hl:H[i]? = some (.list (ps.map (·.2)))) (hs:ps.length≤20) (h:Selfs ps):Call g (n+2) hd H (.top 23) [.ob i,.int k] [] .none (H.set i (.list ((sortIns k (.int k) ps).map (·.2)))):=by
  have r:=ir_N (g:=g) (n:=n) (hd:=hd) (lo:=0) (x:=k) (bd_s2 mIr sIr.1 sIr.2) hl (le100 hs) h.at .none (Nat.zero_le _)
  rw [bsr_pos h.srt,ins_map (k:=k),←sortIns_eq] at r
  exact r
end
noncomputable def lowF (near:Int):Nat→Int→List Int→Int
  | _,a,[]=>a
  | p,a,b :: r=>lowF near (p+1) (a * near+(if p % 2=0 then -b else b)) r
noncomputable def highF (near:Int):Int→List Int→Int
  | a,[]=>a
  | a,b :: r=>highF near (a * near+b) r
section
variable {g:Gx} {n N:Nat} {B:AHeap} {i:Nat} {cs:List Int} {near:Int} {cv l r nm cu:AV}
noncomputable abbrev sdI (cv:AV) (near:Int) (l r nm cu:AV) (lo hi:Int):Loc:=[("curves",cv),("near",.int near),("left",l),("right",r),("name",nm),("curve",cu),("low",.int lo),("high",.int hi)]
noncomputable abbrev sdO:Stmt:=sAt dSides.body 1
noncomputable abbrev sdS:Stmt:=sAt (whB sdO) 1
theorem sd_in (hn:-(2 ^ 64) < near∧near < 2 ^ 64) (hi:B[i]? = some (.list (cs.map .int))):∀ (ys:List Int) (k:Nat) (lo hi:Int),cs.drop k=ys →
    Fr ⟨g,n+1,kOf dSides false N⟩ (sdI cv near l r nm cu lo hi) B (forT sdS) (.enum i k) (whB sdS) (forO sdS) ⟨.next,sdI cv near l r nm cu (lowF near k lo ys) (highF near hi ys),B⟩:=by
  intro ys
  induction ys with
  | nil =>
    intro k lo hi' h
    exact fr_end (end_enum hi (by rw [List.length_map];exact drop_n h)) ex_nil
  | cons y ys ih =>
    intro k lo hi' h
    have e:=drop_c h
    have e1:(cs.map AV.int)[k]? = some (.int y):=(List.getElem?_map ..).trans (congrArg _ e.1)
    cases hk:((k % 2:Nat):Int) == 0 with
    | true =>
      rw [lowF,if_pos (Int.ofNat.inj (eq_of_beq hk))]
      apply fr_step
      · apply turn_enum hi e1
        repeat clear Zg
      · repeat clear Zg
      · exact fr_sub (sub_app (sdI cv near l r nm cu (lo * near+-y) (hi' * near+y)) [("place",_),("bend",_)]) (ih _ _ _ e.2)
    | false =>
      rw [lowF,if_neg fun q=>ne_of_beq_false hk (congrArg Int.ofNat q)]
      apply fr_step
      · apply turn_enum hi e1
        repeat clear Zg
      · repeat clear Zg
      · exact fr_sub (sub_app (sdI cv near l r nm cu (lo * near+y) (hi' * near+y)) [("place",_),("bend",_)]) (ih _ _ _ e.2)
end
section
variable {g:Gx} {n:Nat} {hd:Bool} {H H2 B:AHeap} {i j k:Nat} {qual nm:Str} {params:Arguments} {body:Expr} {scope:Scope} {clos:List (Str × Nat)} {at_:Option Nat} {v w:AV} {ls:List Int} {x:Int}
theorem call_lam0 (h:H[i]? = some (.fn qual params body scope clos at_)) (hk:scope.kind = .function∧scope.isCoroutine=false∧scope.isGenerator=false) (hb:LamBind qual params body scope nm) (hc:cellsN scope.names=[]) (hl:scope.names.lookup nm=some .local)
    (hx:Ev ⟨g,n,kL qual scope clos hd H.length⟩ [(nm,v)] H body w H2):Call g (n+1) hd H (.ob i) [v] [] w H2:=by
  apply call_lam h hk hb (l1:=[(nm,v)]) (H1:=H)
  · rw [hc,List.append_nil];apply bs_cons;apply sn_loc;exact hl;apply bs_nil
  · exact hx
noncomputable def exE:Stmt→Expr | .Expr e _=>e | _=>default
noncomputable def kwN (e:Expr) (i:Nat):Expr:=match e with
  | .Call _ _ ks _=>((ks[i]?).map (·.value)).getD default
  | _ => default
noncomputable def lamQ (d:FD):Str:=d.name ++ ".<locals>." ++ "<lambda>"
noncomputable def sdKL (i:Nat):AObj:=mkLam (kwN (exE (sAt (whB sdO) 4)) 0) (lamQ dSides) [("lefts",i)] none
noncomputable def sdKR (i:Nat):AObj:=mkLam (kwN (exE (sAt (whB sdO) 5)) 0) (lamQ dSides) [("rights",i)] none
theorem sdKL_call (h1:B[j]? = some (sdKL i)) (h2:B[i]? = some (.cell (some (.ob k)))) (h3:B[k]? = some (.list (ls.map .int))) (hs:ls.length≤100) {m:Nat} (e:ls[m]? = some x):Call g (n+1) hd B (.ob j) [.int m] [] (.int x) B:=by
  have e1:(ls.map AV.int)[m]? = some (.int x):=(List.getElem?_map ..).trans (congrArg _ e)
  have hs:(ls.map AV.int).length≤1000:=by rw [List.length_map];exact le1000 hs
  apply call_lam0 (nm:="one") h1 ⟨by kernel_rfl,by kernel_rfl,by kernel_rfl⟩ (fun _ _ _ _ _=>by kernel_rfl) (by kernel_rfl) (by kernel_rfl)
  repeat clear Zg
theorem sdKR_call (h1:B[j]? = some (sdKR i)) (h2:B[i]? = some (.cell (some (.ob k)))) (h3:B[k]? = some (.list (ls.map .int))) (hs:ls.length≤100) {m:Nat} (e:ls[m]? = some x):Call g (n+1) hd B (.ob j) [.int m] [] (.int x) B:=by
  have e1:(ls.map AV.int)[m]? = some (.int x):=(List.getElem?_map ..).trans (congrArg _ e)
  have hs:(ls.map AV.int).length≤1000:=by rw [List.length_map];exact le1000 hs
  apply call_lam0 (nm:="one") h1 ⟨by kernel_rfl,by kernel_rfl,by kernel_rfl⟩ (fun _ _ _ _ _=>by kernel_rfl) (by kernel_rfl) (by kernel_rfl)
  repeat clear Zg
end
theorem sortA_snoc {β:Type} (x:Int × β):∀ (xs acc:List (Int × β)),sortA (xs++[x]) acc=sortIns x.1 x.2 (sortA xs acc)
  | [],acc=>rfl
  | (k,v) :: r,acc=>by rw [List.cons_append,sortA,sortA_snoc x r,sortA]
theorem sortA_insL {β:Type} (k:Int) (v:β):∀ (xs acc:List (Int × β)),sortA xs (sortInsL k v acc)=sortInsL k v (sortA xs acc)
  | [],acc=>rfl
  | (l,u) :: r,acc=>by rw [sortA,sortA,←ins_comm,sortA_insL k v r]
theorem mem_sortA {β:Type} {p:Int × β}:∀ (ps acc:List (Int × β)),p∈sortA ps acc↔p∈ps∨p∈acc
  | [],acc=>⟨.inr,fun h=>h.elim (fun m=>nomatch m) id⟩
  | (k,v) :: r,acc=>by
    rw [sortA,mem_sortA r,mem_sortIns,List.mem_cons,or_assoc,or_left_comm]
theorem len_sortA {β:Type}:∀ (ps acc:List (Int × β)),(sortA ps acc).length=ps.length+acc.length
  | [],acc=>(Nat.zero_add _).symm
  | (k,v) :: r,acc=>by rw [sortA,len_sortA r,len_sortIns,List.length_cons,Nat.add_assoc,Nat.add_comm 1]
theorem srt_sortA {β:Type}:∀ {ps acc:List (Int × β)},Srt acc→Srt (sortA ps acc)
  | [],_,h=>h
  | (k,v) :: r,_,h=>srt_sortA (ps:=r) (srt_sortIns h)
noncomputable def named (ks:List Int):List (Int × AV):=(ks.zipIdx).map fun p=>(p.1,.int p.2)
theorem named_snoc (ks:List Int) (x:Int):named (ks++[x])=named ks++[(x,.int ks.length)]:=by
  unfold named;rw [List.zipIdx_append,List.map_append,Nat.zero_add];rfl
theorem named_len (ks:List Int):(named ks).length=ks.length:=(List.length_map _).trans List.length_zipIdx
theorem named_mem {ks:List Int} {p:Int × AV} (h:p∈named ks):∃ k:Nat,p.2 = .int k∧ks[k]? = some p.1:=
  (List.mem_map.mp h).elim fun q w=>⟨q.2,w.2 ▸ rfl,w.2 ▸ List.mem_zipIdx_iff_getElem?.mp w.1⟩
noncomputable def lpOf (ls:List Int):List (Int × AV):=sortA (named ls).reverse []
noncomputable def rpOf (rs:List Int):List (Int × AV):=sortA (named rs) []
theorem lpOf_snoc (ls:List Int) (x:Int):lpOf (ls++[x])=sortInsL x (.int ls.length) (lpOf ls):=by
  unfold lpOf;rw [named_snoc,List.reverse_append]
  exact sortA_insL x _ (named ls).reverse []
theorem rpOf_snoc (rs:List Int) (x:Int):rpOf (rs++[x])=sortIns x (.int rs.length) (rpOf rs):=by
  unfold rpOf;rw [named_snoc,sortA_snoc]
theorem lpOf_mem {ls:List Int} {p:Int × AV} (h:p∈lpOf ls):∃ k:Nat,p.2 = .int k∧ls[k]? = some p.1:=
  ((mem_sortA _ _).mp h).elim (fun m=>named_mem (List.mem_reverse.mp m)) fun m=>nomatch m
theorem rpOf_mem {ls:List Int} {p:Int × AV} (h:p∈rpOf ls):∃ k:Nat,p.2 = .int k∧ls[k]? = some p.1:=
  ((mem_sortA _ _).mp h).elim named_mem fun m=>nomatch m
theorem lpOf_len (ls:List Int):(lpOf ls).length=ls.length:=(len_sortA _ _).trans ((List.length_reverse).trans (named_len ls))
theorem rpOf_len (ls:List Int):(rpOf ls).length=ls.length:=(len_sortA _ _).trans (named_len ls)
theorem lpOf_srt (ls:List Int):Srt (lpOf ls):=srt_sortA .nil
theorem rpOf_srt (ls:List Int):Srt (rpOf ls):=srt_sortA .nil
section
variable {g:Gx} {n:Nat} {hd:Bool} {H G E E':AHeap} {ci cj k:Nat} {near:Int} {c:List Int} {ls rs:List Int} {ids:List AV}
theorem c_insLE {m j:Nat} {ps:List (Int × AV)} {k:Int} {w:AV} (hl:E[m]? = some (.list (ps.map (·.2)))) (hs:ps.length≤20) (so:Srt ps) (h:Keyed g n hd (H++E) j ps) (hw:Call g (n+1) hd (H++E) (.ob j) [w] [] (.int k) (H++E)) :
    Call g (n+2) hd (H++E) (.top 41) [.ob (H.length+m),w] [("key",.ob j)] .none (H++E.set m (.list ((sortInsL k w ps).map (·.2)))):=by
  rw [←setk];exact c_insL (getK hl) hs so h hw
theorem c_insRE {m j:Nat} {ps:List (Int × AV)} {k:Int} {w:AV} (hl:E[m]? = some (.list (ps.map (·.2)))) (hs:ps.length≤20) (so:Srt ps) (h:Keyed g n hd (H++E) j ps) (hw:Call g (n+1) hd (H++E) (.ob j) [w] [] (.int k) (H++E)) :
    Call g (n+2) hd (H++E) (.top 23) [.ob (H.length+m),w] [("key",.ob j)] .none (H++E.set m (.list ((sortIns k w ps).map (·.2)))):=by
  rw [←setk];exact c_insR (getK hl) hs so h hw
noncomputable abbrev sdH (H:AHeap) (ls rs:List Int) (G:AHeap):AHeap:=
  H++(.cell (some (.ob (H.length+2))) :: .cell (some (.ob (H.length+3))) :: .list (ls.map .int) :: .list (rs.map .int) :: .list ((lpOf ls).map (·.2)) :: .list ((rpOf rs).map (·.2)) :: G)
noncomputable abbrev sdL (H:AHeap) (ci:Nat) (near:Int):Loc:=[("curves",.ob ci),("near",.int near),("left",.ob (H.length+4)),("right",.ob (H.length+5))]
theorem snoc_get {x v:Int} {m:Nat} (h:ls[m]? = some v):(ls++[x])[m]? = some v:=(List.getElem?_append_left (List.getElem?_eq_some_iff.mp h).1).trans h
theorem snoc_len {x:Int} (h:ls.length≤20):(ls++[x]).length≤100:=by rw [List.length_append];exact Nat.le_trans (Nat.succ_le_succ h) (by decide)
theorem sdKL_keyed {B:AHeap} {i j m:Nat} {x:Int} (h1:B[j]? = some (sdKL i)) (h2:B[i]? = some (.cell (some (.ob m)))) (h3:B[m]? = some (.list ((ls++[x]).map .int))) (hs:ls.length≤20):Keyed g (n+1) hd B j (lpOf ls)∧Call g (n+2) hd B (.ob j) [.int ls.length] [] (.int x) B:=
  ⟨⟨⟨_,_,_,_,_,_,h1⟩,fun p hp=>(lpOf_mem hp).elim fun k q=>q.1 ▸ sdKL_call h1 h2 h3 (snoc_len hs) (snoc_get q.2)⟩,sdKL_call h1 h2 h3 (snoc_len hs) List.getElem?_concat_length⟩
theorem sdKR_keyed {B:AHeap} {i j m k:Nat} {x:Int} (hk:rs.length=k) (h1:B[j]? = some (sdKR i)) (h2:B[i]? = some (.cell (some (.ob m)))) (h3:B[m]? = some (.list ((rs++[x]).map .int))) (hs:k≤20):Keyed g (n+1) hd B j (rpOf rs)∧Call g (n+2) hd B (.ob j) [.int k] [] (.int x) B:=by
  subst hk
  exact ⟨⟨⟨_,_,_,_,_,_,h1⟩,fun p hp=>(rpOf_mem hp).elim fun k q=>q.1 ▸ sdKR_call h1 h2 h3 (snoc_len hs) (snoc_get q.2)⟩,sdKR_call h1 h2 h3 (snoc_len hs) List.getElem?_concat_length⟩
theorem sd_turn (hn:-(2 ^ 64) < near∧near < 2 ^ 64) (hc:H[ci]? = some (.list ids)) (hk:ids[ls.length]? = some (.ob cj)) (hj:H[cj]? = some (.list (c.map .int))) (lr:rs.length=ls.length) (h20:ls.length≤20):∃ G',
    Ex ⟨g,n+5,kOf dSides false H.length⟩ (upd "curve" (.ob cj) (upd "name" (.int (ls.length:Nat)) (sdL H ci near))) (sdH H ls rs G) (whB sdO) ⟨.next,sdI (.ob ci) near (.ob (H.length+4)) (.ob (H.length+5)) (.int (ls.length:Nat)) (.ob cj) (lowF near 0 0 c) (highF near 0 c),sdH H (ls++[lowF near 0 0 c]) (rs++[highF near 0 c]) G'⟩:=by
  have b1:ls.length≤100:=Nat.le_trans h20 (by decide)
  have b2:rs.length≤100:=lr ▸ b1
  have h20':rs.length≤20:=lr ▸ h20
  have hc':(sdH H ls rs G)[ci]? = some (.list ids):=getOld hc
  apply Exists.intro
  unfold sdH
  rw [lpOf_snoc,rpOf_snoc,lr]
  repeat clear Zg
  · apply st_for (fun _ _=>rfl) rfl
    · apply it_enum (fun _ _=>rfl) (by kernel_rfl)
      · clear Zg
      · exact getOld hj
    · exact sd_in hn (getOld hj) c 0 0 0 rfl
  repeat clear Zg
  · exact c_insLE (ps:=lpOf ls) rfl ((lpOf_len ls).symm ▸ h20) (lpOf_srt ls) (sdKL_keyed getLE (get0 rfl) (getK rfl) h20).1 (sdKL_keyed getLE (get0 rfl) (getK rfl) h20).2
  repeat clear Zg
  · exact c_insRE (ps:=rpOf rs) rfl ((rpOf_len rs).symm ▸ h20') (rpOf_srt rs) (sdKR_keyed lr getLE (getK rfl) (getK rfl) h20).1 (sdKR_keyed lr getLE (getK rfl) (getK rfl) h20).2
  repeat clear Zg
theorem sd_loop (hn:-(2 ^ 64) < near∧near < 2 ^ 64) (hc:H[ci]? = some (.list ids)):∀ (ps:List (List Int × Nat)) (ls rs:List Int) (G:AHeap),ids.drop ls.length=ps.map (fun p=>.ob p.2)→(∀ p∈ps,H[p.2]? = some (.list (p.1.map .int)))→rs.length=ls.length→ids.length≤20→∃ G',
    Fr ⟨g,n+5,kOf dSides false H.length⟩ (sdL H ci near) (sdH H ls rs G) (forT sdO) (.enum ci ls.length) (whB sdO) (forO sdO) ⟨.next,sdL H ci near,sdH H (ls++ps.map fun p=>lowF near 0 0 p.1) (rs++ps.map fun p=>highF near 0 p.1) G'⟩:=by
  intro ps
  induction ps with
  | nil =>
    intro ls rs G h _ _ _
    refine ⟨G,fr_end (end_enum (getOld hc) (drop_n h)) ?_⟩
    rw [List.map_nil,List.map_nil,List.append_nil,List.append_nil];exact ex_nil
  | cons p ps ih =>
    intro ls rs G h hp lr h20
    have e:=drop_c h
    have l20:ls.length≤20:=Nat.le_trans (Nat.le_of_lt (List.getElem?_eq_some_iff.mp e.1).1) h20
    obtain ⟨G1,t⟩:=sd_turn (g:=g) (n:=n) (rs:=rs) (ls:=ls) (G:=G) hn hc e.1 (hp p (.head _)) lr l20
    obtain ⟨G2,q⟩:=ih (ls++[lowF near 0 0 p.1]) (rs++[highF near 0 p.1]) G1 (by rw [List.length_append];exact e.2) (fun q m=>hp q (.tail _ m)) (by rw [List.length_append,List.length_append,lr];rfl) h20
    rw [List.append_assoc,List.append_assoc] at q
    refine ⟨G2,fr_step (turn_enum (getOld hc) e.1 ?_) t ?_⟩
    · repeat clear Zg
    · rw [List.length_append] at q
      exact fr_sub (sub_app (sdL H ci near) _) q
end
section
variable {g:Gx} {n:Nat} {hd:Bool} {H G E:AHeap} {i j ci:Nat} {near:Int} {f:AV} {xs ys:List Int} {ls rs:List Int} {ids:List AV}
theorem c_eq_ints (h1:H[i]? = some (.list (xs.map .int))) (h2:H[j]? = some (.list (xs.map .int))):Cmp g .Eq (.ob i) (.ob j) H true:=by
  rw [←beq_self_eq_true xs];exact c_eq_list embInt h1 h2 (fun _ _=>trivial) (fun _ _=>trivial)
theorem c_eq_same {L:List AV} (hL:∃ xs:List Int,L=xs.map .int) (h1:H[i]? = some (.list L)) (h2:H[j]? = some (.list L)):Cmp g .Eq (.ob i) (.ob j) H true:=by
  obtain ⟨xs,rfl⟩:=hL
  exact c_eq_ints h1 h2
theorem ky_of:∀ (ps:List (Int × AV)),(∀ p∈ps,∀ ys,Call g n hd (H++[.list ys]) f [p.2] [] (.int p.1) (H++[.list ys]))→Ky g n hd H f (ps.map (·.2)) (ps.map (·.1))
  | [],_=>.nil
  | p :: r,h=>ky_cons (h p (.head _)) (ky_of r fun q m=>h q (.tail _ m))
theorem zip_ps:∀ ps:List (Int × AV),(ps.map (·.1)).zip (ps.map (·.2))=ps
  | []=>rfl
  | p :: r=>congrArg (p :: ·) (zip_ps r)
theorem c_sortE {ps:List (Int × AV)} (h:(H++E)[i]? = some (.list (ps.map (·.2)))) (h5:ps.length=5) (kk:∀ p∈ps,∀ ys,Call g n hd (H++E++[.list ys]) (.ob j) [p.2] [] (.int p.1) (H++E++[.list ys])) :
    Call g (n+1) hd (H++E) (.bi "sorted") [.ob i] [("key",.ob j)] (.ob (H.length+(E.length+1))) (H++(E++[.list [],.list ((sortA ps []).map (·.2))])):=by
  have q:=c_sorted h (by rw [List.length_map];exact h5) (ky_of ps kk)
  unfold sortK at q
  rw [zip_ps] at q
  rw [←app3,←Nat.add_assoc,←lenE];exact q
theorem all_ints:∀ {ps:List (Int × AV)},(∀ p∈ps,∃ k:Nat,p.2 = .int k)→∃ xs:List Int,ps.map (·.2)=xs.map .int
  | [],_=>⟨[],rfl⟩
  | p :: r,h=>(h p (.head _)).elim fun k e=>(all_ints fun q m=>h q (.tail _ m)).elim fun xs w=>⟨k :: xs,by rw [List.map_cons,e,w];rfl⟩
theorem rp_ints (rs:List Int):∃ xs:List Int,(rpOf rs).map (·.2)=xs.map .int:=all_ints fun _ m=>(rpOf_mem m).imp fun _ q=>q.1
theorem lp_ints (ls:List Int):∃ xs:List Int,(lpOf ls).map (·.2)=xs.map .int:=all_ints fun _ m=>(lpOf_mem m).imp fun _ q=>q.1
theorem five {α:Type} {l:List α} (h:l.length=5):∃ a b c d e,l=[a,b,c,d,e]:=match l,h with | [a,b,c,d,e],_=>⟨a,b,c,d,e,rfl⟩
noncomputable def boolN (e:Expr) (i:Nat):Expr:=match e with
  | .BoolOp _ es _=>es[i]?.getD default
  | _ => default
noncomputable def cmpR (e:Expr):Expr:=match e with
  | .Compare _ _ (r :: _) _=>r
  | _ => default
noncomputable def sdSR (i:Nat):AObj:=mkLam (kwN (cmpR (boolN (asgV (sAt dSides.body 2)) 0)) 0) (lamQ dSides) [("rights",i)] none
noncomputable def sdSL (i:Nat):AObj:=mkLam (kwN (cmpR (boolN (asgV (sAt dSides.body 2)) 1)) 0) (lamQ dSides) [("lefts",i)] none
end
section
variable {g:Gx} {n:Nat} {hd:Bool} {H G E:AHeap} {i j ci:Nat} {near:Int} {f:AV} {xs ys:List Int} {ls rs:List Int} {ids:List AV}
variable {B:AHeap} {k:Nat} {x:Int}
theorem sdSL_call (h1:B[j]? = some (sdSL i)) (h2:B[i]? = some (.cell (some (.ob k)))) (h3:B[k]? = some (.list (ls.map .int))) (hs:ls.length≤100) {m:Nat} (e:ls[m]? = some x):Call g (n+1) hd B (.ob j) [.int m] [] (.int x) B:=by
  have e1:(ls.map AV.int)[m]? = some (.int x):=(List.getElem?_map ..).trans (congrArg _ e)
  have hs:(ls.map AV.int).length≤1000:=by rw [List.length_map];exact le1000 hs
  apply call_lam0 (nm:="one") h1 ⟨by kernel_rfl,by kernel_rfl,by kernel_rfl⟩ (fun _ _ _ _ _=>by kernel_rfl) (by kernel_rfl) (by kernel_rfl)
  repeat clear Zg
theorem sdSR_call (h1:B[j]? = some (sdSR i)) (h2:B[i]? = some (.cell (some (.ob k)))) (h3:B[k]? = some (.list (ls.map .int))) (hs:ls.length≤100) {m:Nat} (e:ls[m]? = some x):Call g (n+1) hd B (.ob j) [.int m] [] (.int x) B:=by
  have e1:(ls.map AV.int)[m]? = some (.int x):=(List.getElem?_map ..).trans (congrArg _ e)
  have hs:(ls.map AV.int).length≤1000:=by rw [List.length_map];exact le1000 hs
  apply call_lam0 (nm:="one") h1 ⟨by kernel_rfl,by kernel_rfl,by kernel_rfl⟩ (fun _ _ _ _ _=>by kernel_rfl) (by kernel_rfl) (by kernel_rfl)
  repeat clear Zg
theorem sdSR_sort {k m:Nat} (h:(H++E)[k]? = some (.list ((named rs).map (·.2)))) (r5:rs.length=5) (h1:(H++E)[j]? = some (sdSR i)) (h2:(H++E)[i]? = some (.cell (some (.ob m)))) (h3:(H++E)[m]? = some (.list (rs.map .int))) :
    Call g (n+2) hd (H++E) (.bi "sorted") [.ob k] [("key",.ob j)] (.ob (H.length+(E.length+1))) (H++(E++[.list [],.list ((rpOf rs).map (·.2))])):=
  c_sortE h ((named_len rs).trans r5) fun p hp ys=>(named_mem hp).elim fun q w=>w.1 ▸ sdSR_call (getOld h1) (getOld h2) (getOld h3) (by rw [r5];decide) w.2
theorem sdSL_sort {k m:Nat} (h:(H++E)[k]? = some (.list ((named ls).reverse.map (·.2)))) (r5:ls.length=5) (h1:(H++E)[j]? = some (sdSL i)) (h2:(H++E)[i]? = some (.cell (some (.ob m)))) (h3:(H++E)[m]? = some (.list (ls.map .int))) :
    Call g (n+2) hd (H++E) (.bi "sorted") [.ob k] [("key",.ob j)] (.ob (H.length+(E.length+1))) (H++(E++[.list [],.list ((lpOf ls).map (·.2))])):=
  c_sortE h (List.length_reverse.trans ((named_len ls).trans r5)) fun p hp ys=>(named_mem (List.mem_reverse.mp hp)).elim fun q w=>w.1 ▸ sdSL_call (getOld h1) (getOld h2) (getOld h3) (by rw [r5];decide) w.2
end
section
variable {g:Gx} {n:Nat} {hd:Bool} {H G E:AHeap} {i j ci:Nat} {near:Int} {f:AV} {xs ys:List Int} {ls rs:List Int} {ids:List AV}
theorem sd_sure (h5:ls.length=5) (r5:rs.length=5):∃ G',St ⟨g,n+3,kOf dSides false H.length⟩ (sdL H ci near) (sdH H ls rs G) (sAt dSides.body 2) ⟨.next,sdL H ci near++([("sure",.bool true)]:Loc),sdH H ls rs G'⟩:=by
  unfold sdH
  obtain ⟨a0,a1,a2,a3,a4,rfl⟩:=five h5
  obtain ⟨b0,b1,b2,b3,b4,rfl⟩:=five r5
  apply Exists.intro
  apply st_as
  · apply st_assign
    · kernel_rfl
    · kernel_rfl
    · exact fun _ _=>rfl
    apply ev_and
    repeat clear Zg
    · exact sdSR_sort (rs:=[b0,b1,b2,b3,b4]) (getK (getOld get_last)) rfl getLE (getK rfl) (getK rfl)
    · exact c_eq_same (rp_ints [b0,b1,b2,b3,b4]) (getK rfl) getL1
    repeat clear Zg
    · exact sdSL_sort (ls:=[a0,a1,a2,a3,a4]) (getK (getOld get_last)) rfl getLE (get0 rfl) (getK rfl)
    · exact c_eq_same (lp_ints [a0,a1,a2,a3,a4]) (getK rfl) getL1
    repeat clear Zg
  · rfl
  · exact rfl
noncomputable def lows (near:Int) (cs:List (List Int)):List Int:=cs.map (lowF near 0 0)
noncomputable def highs (near:Int) (cs:List (List Int)):List Int:=cs.map (highF near 0)
theorem c_sides {cs:List (List Int)} {cids:List Nat} (hn:-(2 ^ 64) < near∧near < 2 ^ 64) (h5:cs.length=5) (i5:cids.length=5) (h1:H[ci]? = some (.list (cids.map .ob))) (h2:∀ (k:Nat) c i,cs[k]? = some c→cids[k]? = some i→H[i]? = some (.list (c.map .int))) :
    ∃ G r,Call g (n+6) false H (.top 136) [.ob ci,.int near] [] (.ob r) (H++G)∧(H++G)[r]? = some (.tup [.ob (H.length+4),.ob (H.length+5),.ob (H.length+3),.bool true]) ∧
      (H++G)[H.length+4]? = some (.list ((lpOf (lows near cs)).map (·.2)))∧(H++G)[H.length+5]? = some (.list ((rpOf (highs near cs)).map (·.2)))∧(H++G)[H.length+3]? = some (.list ((highs near cs).map .int)):=by
  obtain ⟨c0,c1,c2,c3,c4,rfl⟩:=five h5
  obtain ⟨i0,i1,i2,i3,i4,rfl⟩:=five i5
  obtain ⟨G1,q1⟩:=sd_loop (g:=g) (n:=n) hn h1 [(c0,i0),(c1,i1),(c2,i2),(c3,i3),(c4,i4)] [] [] [.tup [.ob (H.length+2),.ob (H.length+3),.ob (H.length+4),.ob (H.length+5)]] rfl
    (List.forall_mem_cons.mpr ⟨h2 0 _ _ rfl rfl,List.forall_mem_cons.mpr ⟨h2 1 _ _ rfl rfl,List.forall_mem_cons.mpr ⟨h2 2 _ _ rfl rfl,List.forall_mem_cons.mpr ⟨h2 3 _ _ rfl rfl,List.forall_mem_cons.mpr ⟨h2 4 _ _ rfl rfl,fun _ m=>nomatch m⟩⟩⟩⟩⟩) rfl (Nat.le_of_ble_eq_true rfl)
  obtain ⟨G2,q2⟩:=sd_sure (g:=g) (n:=n+2) (H:=H) (ci:=ci) (near:=near) (G:=G1) (ls:=lows near [c0,c1,c2,c3,c4]) (rs:=highs near [c0,c1,c2,c3,c4]) rfl rfl
  refine ⟨(.cell (some (.ob (H.length+2))) :: .cell (some (.ob (H.length+3))) :: .list ((lows near [c0,c1,c2,c3,c4]).map .int) :: .list ((highs near [c0,c1,c2,c3,c4]).map .int) :: .list ((lpOf (lows near [c0,c1,c2,c3,c4])).map (·.2)) :: .list ((rpOf (highs near [c0,c1,c2,c3,c4])).map (·.2)) :: G2)++[.tup [.ob (H.length+4),.ob (H.length+5),.ob (H.length+3),.bool true]],_,?_,getLE,getK rfl,getK rfl,getK rfl⟩
  apply call1 (d:=dSides) (E:=[.cell none,.cell none]) (in_tab 15 rfl) (by kernel_rfl) (bd_2 (n1:="curves") (n2:="near") (in_tab 15 rfl) (by kernel_rfl) (by decide +kernel) (fun _ _ _ _ _ _ _=>by kernel_rfl)) (by kernel_rfl)
  repeat clear Zg
  · apply st_for (fun _ _=>rfl) rfl
    · apply it_enum (fun _ _=>rfl) (by kernel_rfl)
      · clear Zg
      · exact getOld h1
    · exact q1
  apply ex_cons
  · exact q2
  repeat clear Zg
end
theorem sub_nil {l:Loc} (nm:Str) (v:AV) (q:List.lookup nm ([]:Loc)=some v):l.lookup nm=some v:=nomatch (show (none:Option AV)=some v from q)
inductive Yl (g:Gx) (tg:Expr) (H:AHeap):AIter→List AV→Prop
  | nil {it}:(∀ (c:Cx) (X:AHeap),End c (H++X) it)→Yl g tg H it []
  | cons {it it' v vs}:(∀ {c:Cx} {l l1:Loc} {X H1:AHeap},c.g=g→As c l (H++X) tg v l1 H1→Turn c l (H++X) tg it l1 H1 it')→Yl g tg H it' vs→Yl g tg H it (v :: vs)
section
variable {g:Gx} {c:Cx} {H H1:AHeap} {l:Loc} {tg elt e:Expr} {ifs:List Expr} {a:Int} {gc:Comprehension} {scope:Scope} {cl:List (Str × Nat)} {i:Nat} {xs:List AV} {it:AIter} {p:AV→Bool} {f:AV→AV} {st:AV→Loc}
theorem Yl.list (h:H[i]? = some (.list xs)) (hg:Go g tg "list_iterator"):∀ (ys:List AV) (k:Nat),xs.drop k=ys→Yl g tg H (.list i k) ys
  | [],k,e=>.nil fun c X=>end_list (getOld h) (drop_n e)
  | v :: ys,k,e=>.cons (fun q as=>turn_list (getOld h) (drop_c e).1 (q ▸ hg) as) (Yl.list h hg ys (k+1) (drop_c e).2)
theorem Yl.range (hg:Go g tg "range_iterator"):∀ (n a:Nat),Yl g tg H (.range a 1 n) ((List.range' a n).map fun j:Nat=>.int j)
  | 0,a=>.nil fun c X=>end_range
  | n + 1,a=>.cons (fun q as=>turn_range (q ▸ hg) as) (Yl.range hg n (a+1))
theorem ge_x (ha:Sync gc) {ys:List AV} (hy:Yl c.g gc.target H1 it ys) (hs:∀ v∈ys,∀ as,As c [] (H1++[.list as]) gc.target v (st v) (H1++[.list as])) (hi:∀ v∈ys,∀ as,Fs c (st v) (H1++[.list as]) gc.ifs (p v) (H1++[.list as]))
    (he:∀ v∈ys,p v=true→∀ as,Ev c (st v) (H1++[.list as]) elt (f v) (H1++[.list as])):∀ as:List AV,as.length+ys.length≤1000→∃ l',Ge c [] (H1++[.list as]) elt [gc] it H1.length l' (H1++[.list (as++(ys.filter p).map f)]):=by
  induction hy with
  | nil h=>exact fun as _=>⟨_,by rw [List.filter_nil,List.map_nil,List.append_nil];exact ge_end ha (h _ _)⟩
  | @cons it it' v vs h _ ih =>
    intro as hl
    have hs':=ih (fun u m=>hs u (.tail _ m)) (fun u m=>hi u (.tail _ m)) (fun u m=>he u (.tail _ m))
    have hi':=hi v (.head _) as
    have ht:=h rfl (hs v (.head _) as)
    cases hp:p v with
    | true =>
      rw [hp] at hi'
      rw [List.filter_cons_of_pos hp,List.map_cons]
      refine (hs' (as++[f v]) (by rw [List.length_append,Nat.add_assoc,Nat.add_comm [f v].length];exact hl)).imp fun l' q=>?_
      rw [List.append_assoc as] at q
      refine ge_put ha ht hi' (he v (.head _) hp as) get_last (Nat.le_trans (Nat.le_add_right _ _) hl) ?_
      rw [put_last]
      exact ge_sub_loc (gr:=[]) sub_nil q
    | false =>
      rw [hp] at hi'
      rw [List.filter_cons_of_neg (ne_true_of_eq_false hp)]
      exact (hs' as (Nat.le_trans (Nat.add_le_add_left (Nat.le_succ _) _) hl)).imp fun l' q=>ge_skip ha ht hi' (ge_sub_loc (gr:=[]) sub_nil q)
theorem lc_x (ha:Sync gc) (ok:CompOk scope) (hf:∀ env v,foldedSetIterable gc.iter env v=pure v) (hd:c.k.hd=false) (hcl:closA scope.names c.k.cells []=some cl) (hit:It c l H gc.iter it H1) (ci:compIt it=true) {ys:List AV} (hy:Yl c.g gc.target H1 it ys) (hl:ys.length≤1000)
    (hs:∀ v∈ys,∀ as,As ⟨c.g,c.n,kC c.k scope cl⟩ [] (H1++[.list as]) gc.target v (st v) (H1++[.list as])) (hi:∀ v∈ys,∀ as,Fs ⟨c.g,c.n,kC c.k scope cl⟩ (st v) (H1++[.list as]) gc.ifs (p v) (H1++[.list as]))
    (he:∀ v∈ys,p v=true→∀ as,Ev ⟨c.g,c.n,kC c.k scope cl⟩ (st v) (H1++[.list as]) elt (f v) (H1++[.list as])):Lc c l H elt [gc] scope H1.length (H1++[.list ((ys.filter p).map f)]):=
  (ge_x (c:=⟨c.g,c.n,kC c.k scope cl⟩) ha hy hs hi he [] (by rw [List.length_nil,Nat.zero_add];exact hl)).elim fun l' q=>lc_mk rfl ok ha hf hd hcl hit ci rfl q
noncomputable def fI {α:Type} (d:α) (q:Int→α):AV→α | .int j=>q j | _=>d
theorem fI_filter (q:Int→Bool) (f:Int→AV):∀ hs:List Int,((hs.map AV.int).filter (fI false q)).map (fI .none f)=(hs.filter q).map f
  | []=>rfl
  | j :: r=>by
    cases h:q j with
    | true=>rw [List.filter_cons_of_pos (p:=q) h,List.map_cons,List.map_cons,List.filter_cons_of_pos (p:=fI false q) (a:=.int j) h,List.map_cons,fI_filter q f r];rfl
    | false=>rw [List.filter_cons_of_neg (p:=q) (ne_true_of_eq_false h),List.map_cons,List.filter_cons_of_neg (p:=fI false q) (a:=.int j) (ne_true_of_eq_false h),fI_filter q f r]
theorem forall_int {P:AV→Prop} {hs:List Int} (h:∀ j∈hs,P (.int j)):∀ v∈hs.map AV.int,P v:=fun v m=>(List.mem_map.mp m).elim fun j q=>q.2 ▸ h j q.1
theorem lc_xi {hs:List Int} {q:Int→Bool} {f:Int→AV} {st:Int→Loc} (ha:(a != 0)=false) (ok:CompOk scope) (hf:∀ env v,foldedSetIterable e env v=pure v) (hd:c.k.hd=false) (hcl:closA scope.names c.k.cells []=some cl) (hit:It c l H e it H1) (ci:compIt it=true) (hy:Yl c.g tg H1 it (hs.map .int)) (hl:hs.length≤1000)
    (h1:∀ j∈hs,∀ as,As ⟨c.g,c.n,kC c.k scope cl⟩ [] (H1++[.list as]) tg (.int j) (st j) (H1++[.list as])) (hi:∀ j∈hs,∀ as,Fs ⟨c.g,c.n,kC c.k scope cl⟩ (st j) (H1++[.list as]) ifs (q j) (H1++[.list as]))
    (he:∀ j∈hs,q j=true→∀ as,Ev ⟨c.g,c.n,kC c.k scope cl⟩ (st j) (H1++[.list as]) elt (f j) (H1++[.list as])):Lc c l H elt [⟨tg,e,ifs,a⟩] scope H1.length (H1++[.list ((hs.filter q).map f)]):=by
  have r:=lc_x (gc:=⟨tg,e,ifs,a⟩) (p:=fI false q) (f:=fI .none f) (st:=fI [] st) ha ok hf hd hcl hit ci hy (by rw [List.length_map];exact hl) (forall_int h1) (forall_int hi) (forall_int he)
  rw [fI_filter] at r
  exact r
theorem ev_compE {E:AHeap} {pos:Pos} {o:AObj} {gens:List Comprehension} (h:Lc c l H elt gens scope (H1++E).length (H1++E++[o])):Ev c l H (.ListComp elt gens scope pos) (.ob (H1.length+E.length)) (H1++(E++[o])):=by
  rw [←app3,←lenE];exact ev_comp h
theorem set_mid {H Q:AHeap} {a b:AObj}:(H++(a :: Q)).set H.length b=H++(b :: Q):=set0
theorem get_mid {H Q:AHeap} {a:AObj}:(H++(a :: Q))[H.length]? = some a:=get0 rfl
theorem ge_g (ha:Sync gc) {ys:List AV} (hy:Yl c.g gc.target H1 it ys) (hs:∀ v∈ys,∀ X,As c [] (H1++X) gc.target v (st v) (H1++X)) (hi:∀ v∈ys,∀ X,∃ Q,Fs c (st v) (H1++X) gc.ifs (p v) (H1++(X++Q)))
    (he:∀ v∈ys,p v=true→∀ X,∃ Q,Ev c (st v) (H1++X) elt (f v) (H1++(X++Q))):∀ (as:List AV) (Q:AHeap),as.length+ys.length≤1000→∃ l' Q',Ge c [] (H1++(.list as :: Q)) elt [gc] it H1.length l' (H1++(.list (as++(ys.filter p).map f) :: Q')):=by
  induction hy with
  | nil h=>exact fun as Q _=>⟨_,Q,by rw [List.filter_nil,List.map_nil,List.append_nil];exact ge_end ha (h _ _)⟩
  | @cons it it' v vs h _ ih =>
    intro as Q hl
    have hs':=ih (fun u m=>hs u (.tail _ m)) (fun u m=>hi u (.tail _ m)) (fun u m=>he u (.tail _ m))
    have ht:=h rfl (hs v (.head _) (.list as :: Q))
    obtain ⟨Q1,hi'⟩:=hi v (.head _) (.list as :: Q)
    cases hp:p v with
    | true =>
      rw [hp] at hi'
      obtain ⟨Q2,he'⟩:=he v (.head _) hp (.list as :: Q++Q1)
      rw [List.filter_cons_of_pos hp,List.map_cons]
      refine (hs' (as++[f v]) (Q++Q1++Q2) (by rw [List.length_append,Nat.add_assoc,Nat.add_comm [f v].length];exact hl)).imp fun l' q=>q.imp fun Q' q=>?_
      rw [List.append_assoc as] at q
      refine ge_put ha ht hi' he' get_mid (Nat.le_trans (Nat.le_add_right _ _) hl) ?_
      rw [show H1++(.list as :: Q++Q1++Q2)=H1++(.list as :: (Q++Q1++Q2)) from rfl,set_mid]
      exact ge_sub_loc (gr:=[]) sub_nil q
    | false =>
      rw [hp] at hi'
      rw [List.filter_cons_of_neg (ne_true_of_eq_false hp)]
      exact (hs' as (Q++Q1) (Nat.le_trans (Nat.add_le_add_left (Nat.le_succ _) _) hl)).imp fun l' q=>q.imp fun Q' q=>ge_skip ha ht hi' (ge_sub_loc (gr:=[]) sub_nil q)
theorem lc_g (ha:(a != 0)=false) (ok:CompOk scope) (hf:∀ env v,foldedSetIterable e env v=pure v) (hd:c.k.hd=false) (hcl:closA scope.names c.k.cells []=some cl) (hit:It c l H e it H1) (ci:compIt it=true) {ys:List AV} (hy:Yl c.g tg H1 it ys) (hl:ys.length≤1000)
    (hs:∀ v∈ys,∀ X,As ⟨c.g,c.n,kC c.k scope cl⟩ [] (H1++X) tg v (st v) (H1++X)) (hi:∀ v∈ys,∀ X,∃ Q,Fs ⟨c.g,c.n,kC c.k scope cl⟩ (st v) (H1++X) ifs (p v) (H1++(X++Q)))
    (he:∀ v∈ys,p v=true→∀ X,∃ Q,Ev ⟨c.g,c.n,kC c.k scope cl⟩ (st v) (H1++X) elt (f v) (H1++(X++Q))):∃ Q,Lc c l H elt [⟨tg,e,ifs,a⟩] scope H1.length (H1++(.list ((ys.filter p).map f) :: Q)):=
  (ge_g (gc:=⟨tg,e,ifs,a⟩) (c:=⟨c.g,c.n,kC c.k scope cl⟩) ha hy hs hi he [] [] (by rw [List.length_nil,Nat.zero_add];exact hl)).elim fun l' q=>q.imp fun Q q=>lc_mk rfl ok ha hf hd hcl hit ci rfl q
end
section
variable {g:Gx} {c:Cx} {H H1:AHeap} {l:Loc} {tg elt e:Expr} {ifs:List Expr} {a:Int} {gc:Comprehension} {scope:Scope} {cl:List (Str × Nat)} {i:Nat} {xs:List AV} {it:AIter} {p:AV→Bool} {f:AV→AV} {st:AV→Loc}
variable {B H' H2 H3 Q Q':AHeap} {as:List AV} {v:AV} {l1 l2 l':Loc} {it' it2:AIter} {e2 tg2:Expr} {ifs2:List Expr} {gr:List Comprehension} {a2:Int}
theorem ge_endE (ha:(a != 0)=false) (h:End c H it):Ge c l H elt (⟨tg,e,ifs,a⟩ :: gr) it i l H:=ge_end ha h
theorem ge_putE (ha:(a != 0)=false) (h:Turn c l (B++(.list as :: Q)) tg it l1 (B++(.list as :: Q)) it') (hf:Fs c l1 (B++(.list as :: Q)) ifs true (B++(.list as :: Q))) (hv:Ev c l1 (B++(.list as :: Q)) elt v H3) (e3:H3=B++(.list as :: Q')) (hl:as.length≤1000)
    (hr:Ge c l1 (B++(.list (as++[v]) :: Q')) elt [⟨tg,e,ifs,a⟩] it' B.length l' H'):Ge c l (B++(.list as :: Q)) elt [⟨tg,e,ifs,a⟩] it B.length l' H':=by
  refine ge_put ha h hf hv (e3 ▸ get_mid) hl ?_
  rw [e3,set_mid];exact hr
theorem ge_skipE (ha:(a != 0)=false) (h:Turn c l H tg it l1 H it') (hf:Fs c l1 H ifs false H) (hr:Ge c l1 H elt [⟨tg,e,ifs,a⟩] it' i l' H'):Ge c l H elt [⟨tg,e,ifs,a⟩] it i l' H':=ge_skip ha h hf hr
theorem ge_subE (ha:(a != 0)=false) (h:Turn c l H tg it l1 H it') (hf:Fs c l1 H ifs true H) (ha2:(a2 != 0)=false) (hs:∀ env v,foldedSetIterable e2 env v=pure v) (hi:It c l1 H e2 it2 H3) (e3:H3=B++(.list as :: Q')) (hc2:compIt it2=true)
    (h2:Ge c l1 (B++(.list as :: Q')) elt (⟨tg2,e2,ifs2,a2⟩ :: gr) it2 i l2 H2) (hr:Ge c l2 H2 elt (⟨tg,e,ifs,a⟩ :: ⟨tg2,e2,ifs2,a2⟩ :: gr) it' i l' H'):Ge c l H elt (⟨tg,e,ifs,a⟩ :: ⟨tg2,e2,ifs2,a2⟩ :: gr) it i l' H':=
  ge_sub ha h hf ha2 hs (e3 ▸ hi) hc2 h2 hr
theorem getKc {k:Nat} {o o':AObj} (f:Q[k]? = some o):(B++(o' :: Q))[B.length+(k+1)]? = some o:=getK f
theorem ge_open {gs:List Comprehension} (h:gs=⟨tg,e,ifs,a⟩ :: gr) (hx:Ge c l H elt (⟨tg,e,ifs,a⟩ :: gr) it i l' H'):Ge c l H elt gs it i l' H':=h ▸ hx
end
noncomputable def compS:Expr→Scope | .ListComp _ _ s _=>s | _=>default
noncomputable def compGs:Expr→List Comprehension | .ListComp _ g _ _=>g | _=>[]
noncomputable def compElt:Expr→Expr | .ListComp e _ _ _=>e | _=>default
theorem ge_asL {c:Cx} {l l1 l2:Loc} {H H':AHeap} {elt:Expr} {gs:List Comprehension} {it:AIter} {n:Nat} (h:Ge c l H elt gs it n l1 H') (e:l1=l2):Ge c l H elt gs it n l2 H':=e ▸ h
theorem it_open {c:Cx} {l:Loc} {H H1:AHeap} {e:Expr} {es:List Expr} {k:Nat} {pos:Pos} {it:AIter} (h:e = .Tuple es k pos) (hx:It c l H (.Tuple es k pos) it H1):It c l H e it H1:=h ▸ hx
theorem ev_openCall {c:Cx} {l:Loc} {H H1:AHeap} {e f:Expr} {es:List Expr} {ks:List Keyword} {pos:Pos} {v:AV} (h:e = .Call f es ks pos) (hx:Ev c l H (.Call f es ks pos) v H1):Ev c l H e v H1:=h ▸ hx
section
variable {β:Type}
theorem sortIns_perm (k:Int) (v:β):∀ ps:List (Int × β),(sortIns k v ps).Perm ((k,v) :: ps)
  | []=>.refl _
  | (l,u) :: r=>by
    unfold sortIns
    by_cases h:k < l
    · rw [if_pos h]
    · rw [if_neg h];exact ((sortIns_perm k v r).cons _).trans (.swap ..)
theorem sortA_perm:∀ ps acc:List (Int × β),(sortA ps acc).Perm (ps++acc)
  | [],acc=>.refl _
  | (k,v) :: r,acc=>(sortA_perm r _).trans (((sortIns_perm k v acc).append_left r).trans List.perm_middle)
theorem posL_count (k:Int):∀ {ps:List (Int × β)},Srt ps→posL k ps=ps.countP fun p=>decide (p.1 < k)
  | [],_=>rfl
  | p :: r,h=>by
    have h2:=List.pairwise_cons.mp h
    unfold posL
    by_cases a:p.1 < k
    · rw [if_pos a,posL_count k h2.2,List.countP_cons_of_pos (p:=fun p:Int × β=>decide (p.1 < k)) (a:=p) (decide_eq_true a)]
    · rw [if_neg a,List.countP_cons_of_neg (p:=fun p:Int × β=>decide (p.1 < k)) (a:=p) (ne_true_of_eq_false (decide_eq_false a))]
      exact (List.countP_eq_zero.mpr fun q m=>ne_true_of_eq_false (decide_eq_false fun w=>a (Int.lt_of_le_of_lt (h2.1 q m) w))).symm
theorem posR_count (k:Int):∀ {ps:List (Int × β)},Srt ps→posR k ps=ps.countP fun p=>decide (p.1≤k)
  | [],_=>rfl
  | p :: r,h=>by
    have h2:=List.pairwise_cons.mp h
    unfold posR
    by_cases a:k < p.1
    · rw [if_pos a,List.countP_cons_of_neg (p:=fun p:Int × β=>decide (p.1≤k)) (a:=p) (ne_true_of_eq_false (decide_eq_false (Int.not_le.mpr a)))]
      exact (List.countP_eq_zero.mpr fun q m=>ne_true_of_eq_false (decide_eq_false (Int.not_le.mpr (Int.lt_of_lt_of_le a (h2.1 q m))))).symm
    · rw [if_neg a,posR_count k h2.2,List.countP_cons_of_pos (p:=fun p:Int × β=>decide (p.1≤k)) (a:=p) (decide_eq_true (Int.not_lt.mp a))]
end
noncomputable def firstN (hs:List Int) (x:Int):Nat:=hs.countP (· < x)
noncomputable def behindN (hs:List Int) (x:Int):Nat:=hs.countP (·≤x)
noncomputable def selfs (hs:List Int):List (Int × AV):=hs.map fun h=>(h,.int h)
noncomputable def highP (hs:List Int):List (Int × AV):=sortA (selfs hs) []
theorem Selfs.insR {ps:List (Int × AV)} (h:Selfs ps) (k:Int):Selfs (sortIns k (.int k) ps):=⟨srt_sortIns h.srt,fun p m=>(mem_sortIns.mp m).elim (fun e=>e ▸ rfl) (h.slf p)⟩
theorem Selfs.nil:Selfs []:=⟨.nil,fun _ m=>nomatch m⟩
theorem selfs_sortA:∀ (hs:List Int) {acc:List (Int × AV)},Selfs acc→Selfs (sortA (selfs hs) acc)
  | [],_,h=>h
  | x :: r,acc,h=>selfs_sortA r (h.insR x)
theorem highP_selfs (hs:List Int):Selfs (highP hs):=selfs_sortA hs Selfs.nil
theorem highP_snoc (hs:List Int) (x:Int):highP (hs++[x])=sortIns x (.int x) (highP hs):=by
  unfold highP selfs;rw [List.map_append];exact sortA_snoc (x,AV.int x) _ _
theorem Selfs.same:∀ {ps:List (Int × AV)},Selfs ps→∀ k:Int,sortInsL k (.int k) ps=sortIns k (.int k) ps
  | [],_,_=>rfl
  | (l, u) :: r,h,k=>by
    have h2:=List.pairwise_cons.mp h.srt
    have hr:Selfs r:=⟨h2.2,fun p m=>h.slf p (.tail _ m)⟩
    unfold sortInsL sortIns
    by_cases a:l < k
    · rw [if_pos a,if_neg (Int.not_lt.mpr (Int.le_of_lt a)),hr.same k]
    · rw [if_neg a]
      by_cases b:k < l
      · rw [if_pos b]
      · obtain rfl:l=k:=Int.le_antisymm (Int.not_lt.mp b) (Int.not_lt.mp a)
        have hu:u = .int l:=h.slf (l,u) (.head _)
        rw [if_neg b,←hr.same l,hu]
        cases r with
        | nil=>rfl
        | cons q r =>
          unfold sortInsL
          rw [if_neg (Int.not_lt.mpr (h2.1 q (.head _)))]
theorem highP_len (hs:List Int):(highP hs).length=hs.length:=(len_sortA _ _).trans (List.length_map _)
theorem count_high (q:Int→Bool) (hs:List Int):(highP hs).countP (fun p=>q p.1)=hs.countP q:=by
  unfold highP;rw [(sortA_perm _ _).countP_eq,List.append_nil,selfs,List.countP_map];rfl
theorem count_row (q:Int→Bool) (hs:List Int):(rpOf hs).countP (fun p=>q p.1)=hs.countP q:=by
  unfold rpOf named
  rw [(sortA_perm _ _).countP_eq,List.append_nil,List.countP_map,show (fun p:Int × AV=>q p.1) ∘ (fun p:Int × Nat=>(p.1,AV.int p.2))=q ∘ Prod.fst from rfl,←List.countP_map,List.zipIdx_map_fst]
theorem posL_high (hs:List Int) (x:Int):posL x (highP hs)=firstN hs x:=(posL_count x (highP_selfs hs).srt).trans (count_high (fun h=>decide (h < x)) hs)
theorem posR_high (hs:List Int) (x:Int):posR x (highP hs)=behindN hs x:=(posR_count x (highP_selfs hs).srt).trans (count_high (fun h=>decide (h≤x)) hs)
theorem posL_row (hs:List Int) (x:Int):posL x (rpOf hs)=firstN hs x:=(posL_count x (rpOf_srt hs)).trans (count_row (fun h=>decide (h < x)) hs)
theorem posR_row (hs:List Int) (x:Int):posR x (rpOf hs)=behindN hs x:=(posR_count x (rpOf_srt hs)).trans (count_row (fun h=>decide (h≤x)) hs)
theorem count_like (x:Int):∀ hs:List Int,behindN hs x=firstN hs x+hs.countP (· == x)
  | []=>rfl
  | y :: r=>by
    have ih:=count_like x r
    unfold behindN firstN at ih ⊢
    have le:=List.countP_cons_of_pos (p:=fun q:Int=>decide (q≤x)) (a:=y) (l:=r)
    have lt:=List.countP_cons_of_pos (p:=fun q:Int=>decide (q < x)) (a:=y) (l:=r)
    have eq:=List.countP_cons_of_pos (p:=fun q:Int=>q == x) (a:=y) (l:=r)
    have nle:=List.countP_cons_of_neg (p:=fun q:Int=>decide (q≤x)) (a:=y) (l:=r)
    have nlt:=List.countP_cons_of_neg (p:=fun q:Int=>decide (q < x)) (a:=y) (l:=r)
    have neq:=List.countP_cons_of_neg (p:=fun q:Int=>q == x) (a:=y) (l:=r)
    by_cases h1:y < x
    · rw [le (decide_eq_true (Int.le_of_lt h1)),lt (decide_eq_true h1),neq (fun q=>Int.ne_of_lt h1 (eq_of_beq q)),ih,Nat.add_right_comm]
    · rw [nlt (ne_true_of_eq_false (decide_eq_false h1))]
      by_cases h2:y=x
      · rw [le (decide_eq_true (Int.le_of_eq h2)),eq (beq_iff_eq.mpr h2),ih,Nat.add_assoc]
      · rw [neq (fun q=>h2 (eq_of_beq q)),nle (ne_true_of_eq_false (decide_eq_false fun q=>h2 (Int.le_antisymm q (Int.not_lt.mp h1)))),ih]
theorem firstN_le (hs:List Int) (x:Int):firstN hs x≤behindN hs x:=by rw [count_like];exact Nat.le_add_right _ _
theorem behindN_le (hs:List Int) (x:Int):behindN hs x≤hs.length:=List.countP_le_length
theorem firstN_lt {hs:List Int} {x:Int} (h:x∈hs):firstN hs x < behindN hs x:=by
  rw [count_like];exact Nat.lt_add_of_pos_right (List.countP_pos_iff.mpr ⟨x,h,beq_self_eq_true x⟩)
theorem count_neg (hs:List Int) (x:Int):(firstN hs x:Int) - behindN hs x=-((hs.countP (· == x):Nat):Int):=by rw [count_like];omega
section
variable {g:Gx} {n:Nat} {hd:Bool} {H G E B:AHeap} {i j k hi:Nat} {hv rv cv:AV} {ht hf pt:Option AV} {hg tw ws:List AV} {hs:List Int} {x:Int}
noncomputable def lkKey (i:Nat):AObj:=mkLam (eltN (asgV (sAt dLike.body 0)) 3) (lamQ dLike) [("heights",i)] none
theorem lkKey_call {ls:List Int} (h1:B[j]? = some (lkKey i)) (h2:B[i]? = some (.cell (some (.ob k)))) (h3:B[k]? = some (.list (ls.map .int))) (hs:ls.length≤100) {m:Nat} (e:ls[m]? = some x):Call g (n+1) hd B (.ob j) [.int m] [] (.int x) B:=by
  have e1:(ls.map AV.int)[m]? = some (.int x):=(List.getElem?_map ..).trans (congrArg _ e)
  have hs:(ls.map AV.int).length≤1000:=by rw [List.length_map];exact le1000 hs
  apply call_lam0 (nm:="one") h1 ⟨by kernel_rfl,by kernel_rfl,by kernel_rfl⟩ (fun _ _ _ _ _=>by kernel_rfl) (by kernel_rfl) (by kernel_rfl)
  repeat clear Zg
noncomputable abbrev lkE (i:Nat) (hv rv:AV) (ht hf pt:Option AV) (hg tw ws:List AV) (G:AHeap):AHeap:=
  .cell (some hv) :: .cell (some rv) :: .cell (some (.ob (i+7))) :: .cell (some (.ob (i+10))) :: .cell ht :: .cell hf :: .cell pt :: .list hg :: .list tw :: .list ws :: lkKey i :: G
noncomputable abbrev lkL (i:Nat) (cv:AV):Loc:=[("curves",cv),("twin",.ob (i+8)),("words",.ob (i+9))]
theorem c_ins1LE {m:Nat} {ps:List (Int × AV)} {k:Int} (hl:E[m]? = some (.list (ps.map (·.2)))) (hs:ps.length≤20) (h:Selfs ps):Call g (n+2) hd (H++E) (.top 41) [.ob (H.length+m),.int k] [] .none (H++E.set m (.list ((sortIns k (.int k) ps).map (·.2)))):=by
  rw [←setk,←h.same];exact c_ins1L (getK hl) hs h
theorem c_ins1RE {m:Nat} {ps:List (Int × AV)} {k:Int} (hl:E[m]? = some (.list (ps.map (·.2)))) (hs:ps.length≤20) (h:Selfs ps):Call g (n+2) hd (H++E) (.top 23) [.ob (H.length+m),.int k] [] .none (H++E.set m (.list ((sortIns k (.int k) ps).map (·.2)))):=by
  rw [←setk];exact c_ins1R (getK hl) hs h
noncomputable abbrev lkK (i:Nat):K:=⟨dLike.scope,dLike.name ++ ".<locals>.",[("past",i+6),("half",i+5),("height",i+4),("key",i+3),("high",i+2),("row",i+1),("heights",i)],false,true⟩
noncomputable abbrev lkF1:Stmt:=sAt dLike.body 1
theorem lk_loop1 (h1:H[hi]? = some (.list (hs.map .int))) (h20:hs.length≤20):∀ (ys:List Int) (done:List Int) (ht:Option AV),hs.drop done.length=ys→∃ ht',
    Fr ⟨g,n+3,lkK H.length⟩ (lkL H.length cv) (H++lkE H.length (.ob hi) rv ht hf pt ((highP done).map (·.2)) ((highP done).map (·.2)) ws G) (forT lkF1) (.list hi done.length) (whB lkF1) (forO lkF1)
      ⟨.next,lkL H.length cv,H++lkE H.length (.ob hi) rv ht' hf pt ((highP (done++ys)).map (·.2)) ((highP (done++ys)).map (·.2)) ws G⟩:=by
  intro ys
  induction ys with
  | nil =>
    intro done ht h
    refine ⟨ht,fr_end (end_list (getOld h1) (by rw [List.length_map];exact drop_n h)) ?_⟩
    rw [List.append_nil];exact ex_nil
  | cons y ys ih =>
    intro done ht h
    have e:=drop_c h
    have e1:(hs.map AV.int)[done.length]? = some (.int y):=(List.getElem?_map ..).trans (congrArg _ e.1)
    have l20:(highP done).length≤20:=(highP_len done).symm ▸ Nat.le_trans (Nat.le_of_lt (List.getElem?_eq_some_iff.mp e.1).1) h20
    obtain ⟨ht',q⟩:=ih (done++[y]) (some (.int y)) (by rw [List.length_append];exact e.2)
    rw [List.append_assoc,List.length_append,highP_snoc] at q
    refine ⟨ht',?_⟩
    apply fr_step
    · apply turn_list (getOld h1) e1
      · clear Zg
      · repeat clear Zg
    · repeat clear Zg
      · exact c_ins1LE (ps:=highP done) rfl l20 (highP_selfs done)
      repeat clear Zg
      · exact c_ins1RE (ps:=highP done) rfl l20 (highP_selfs done)
      repeat clear Zg
    · exact q
end
section
variable {g:Gx} {n:Nat} {H E:AHeap} {i hi:Nat} {hs:List Int} {x:Int} {l:Loc}
noncomputable abbrev lkF2:Stmt:=sAt dLike.body 2
noncomputable def argN (e:Expr) (i:Nat):Expr:=match e with
  | .Call _ es _ _=>es[i]?.getD default
  | _ => default
theorem lk_c1 (h1:H[hi]? = some (.list (hs.map .int))) (h100:hs.length≤100) (e0:E[0]? = some (.cell (some (.ob hi)))) (e4:E[4]? = some (.cell (some (.int x)))) :
    Ev ⟨g,n,lkK H.length⟩ l (H++E) (argN (eltN (asgV (sAt (whB lkF2) 0)) 0) 0) (.ob (H.length+E.length)) (H++(E++[.list ((hs.filter fun j=>decide (j < x)).map .int)])):=by
  (with_reducible apply ev_openC)
  · exact rfl
  apply ev_compE
  apply lc_xi (st:=fun j=>upd "one" (.int j) []) (hs:=hs) (f:=.int)
  · rfl
  · exact ⟨by kernel_rfl,by kernel_rfl,by kernel_rfl⟩
  · exact fun _ _=>rfl
  · rfl
  · exact rfl
  · apply it_list
    · repeat clear Zg
    · exact getOld h1
  · rfl
  · exact Yl.list (getOld h1) go_name _ 0 rfl
  · exact le1000 h100
  · intro j _ as
    repeat clear Zg
  · intro j _ as
    repeat clear Zg
  · intro j _ _ as
    repeat clear Zg
theorem lk_c2 (h1:H[hi]? = some (.list (hs.map .int))) (h100:hs.length≤100) (e0:E[0]? = some (.cell (some (.ob hi)))) (e4:E[4]? = some (.cell (some (.int x)))) :
    Ev ⟨g,n,lkK H.length⟩ l (H++E) (argN (eltN (asgV (sAt (whB lkF2) 0)) 1) 0) (.ob (H.length+E.length)) (H++(E++[.list ((hs.filter fun j=>decide (j≤x)).map .int)])):=by
  (with_reducible apply ev_openC)
  · exact rfl
  apply ev_compE
  apply lc_xi (st:=fun j=>upd "one" (.int j) []) (hs:=hs) (f:=.int)
  · rfl
  · exact ⟨by kernel_rfl,by kernel_rfl,by kernel_rfl⟩
  · exact fun _ _=>rfl
  · rfl
  · exact rfl
  · apply it_list
    · repeat clear Zg
    · exact getOld h1
  · rfl
  · exact Yl.list (getOld h1) go_name _ 0 rfl
  · exact le1000 h100
  · intro j _ as
    repeat clear Zg
  · intro j _ as
    repeat clear Zg
  · intro j _ _ as
    repeat clear Zg
theorem getOld_ {α:Type} {E X:List α} {k:Nat} {o:α} (h:E[k]? = some o):(E++X)[k]? = some o:=(List.getElem?_append_left (List.getElem?_eq_some_iff.mp h).1).trans h
theorem app4 {A B C D F:AHeap}:A++(B++C++D++F)=A++(B++(C++D++F)):=by rw [List.append_assoc B,List.append_assoc B]
theorem len_filter (q:Int→Bool):((hs.filter q).map AV.int).length=hs.countP q:=(List.length_map _).trans (List.countP_eq_length_filter).symm
theorem filter_lt {q:Int→Bool} (h:hs.length≤100):((hs.filter q).map AV.int).length < 1000:=by rw [List.length_map];exact Nat.lt_of_le_of_lt (List.length_filter_le _ _) (lt1000 h)
theorem lk_a0 (h1:H[hi]? = some (.list (hs.map .int))) (h100:hs.length≤100) (e0:E[0]? = some (.cell (some (.ob hi)))) (e4:E[4]? = some (.cell (some (.int x)))):∃ G,
    St ⟨g,n,lkK H.length⟩ l (H++E) (sAt (whB lkF2) 0) ⟨.next,upd "first" (.int (firstN hs x:Nat)) (upd "behind" (.int (behindN hs x:Nat)) l),H++(E++G)⟩:=by
  have f1:=filter_lt (q:=fun j=>decide (j < x)) h100
  have f2:=filter_lt (q:=fun j=>decide (j≤x)) h100
  apply Exists.intro
  apply st_as
  · repeat clear Zg
    · exact lk_c1 h1 h100 e0 e4
    repeat clear Zg
    · exact lk_c2 h1 h100 (getOld_ e0) (getOld_ e4)
    repeat clear Zg
  · rw [len_filter,len_filter];rfl
  · exact app4
end
structure LkIn (H:AHeap) (hi ri ci:Nat) (hs:List Int) (cids:List Nat) (cs:List (List Int)):Prop where
  h5:hs.length=5
  c5:cids.length=5
  s5:cs.length=5
  hi_:H[hi]? = some (.list (hs.map .int))
  ri_:H[ri]? = some (.list ((rpOf hs).map (·.2)))
  ci_:H[ci]? = some (.list (cids.map .ob))
  cc:∀ (k:Nat) c i,cs[k]? = some c→cids[k]? = some i→H[i]? = some (.list (c.map .int))
  eqv:∀ (j k:Nat) c d,cs[j]? = some c→cs[k]? = some d→(c=d↔hs[j]? = hs[k]?)
section
variable {g:Gx} {n:Nat} {H X E G:AHeap} {hi ri ci k ck:Nat} {hs:List Int} {cids:List Nat} {cs:List (List Int)} {x:Int} {l:Loc} {cv hv rv:AV} {ht hf pt:Option AV} {hg tw ws:List AV}
theorem at_len {α β:Type} {as:List α} {bs:List β} {k m:Nat} {a:α} (ha:as.length=m) (hb:bs.length=m) (h:as[k]? = some a):∃ b,bs[k]? = some b:=⟨_,List.getElem?_eq_getElem (Nat.lt_of_lt_of_eq (List.getElem?_eq_some_iff.mp h).1 (ha.trans hb.symm))⟩
theorem LkIn.count (L:LkIn H hi ri ci hs cids cs) (hk:hs[k]? = some x) (hc:cids[k]? = some ck):Call g (n+1) false (H++X) (.top 92) [.ob ci,.ob ck] [] (.int ((hs.countP (· == x):Nat))) (H++X):=by
  obtain ⟨c,hck⟩:=at_len L.c5 L.s5 hc
  have q:=L.cc k c ck hck hc
  have r:=c_count (g:=g) (n:=n) (b:=.ob ck) (s:=fun j=>hs[j]? == some x) (getOld (E:=X) L.ci_) (fun j v hv=>by
    rw [List.getElem?_map] at hv
    obtain ⟨i,hi',rfl⟩:=Option.map_eq_some_iff.mp hv
    obtain ⟨d,hd⟩:=at_len L.c5 L.s5 hi'
    have e:=L.cc j d i hd hi'
    have w:=L.eqv j k d c hd hck
    have eq:(d == c)=(hs[j]? == some x):=by
      rw [←hk,Bool.eq_iff_iff,beq_iff_eq,beq_iff_eq];exact w
    rw [←eq]
    exact same_ob (getOld e) (getOld q) (fun h=>beq_iff_eq.mpr (by
      subst h
      exact (List.map_inj_right fun _ _=>AV.int.inj).mp (AObj.list.inj (Option.some.inj (e.symm.trans q))))) (c_eq_list embInt (getOld e) (getOld q) (fun _ _=>trivial) fun _ _=>trivial))
  rw [List.length_map,L.c5] at r
  obtain ⟨h0,h1,h2,h3,h4,rfl⟩:=five L.h5
  exact r
theorem leEq {a b c:Nat} (h:a≤b) (e:b=c):a≤c:=e ▸ h
theorem lk_bl {B:AHeap} {j lo hi r:Nat} (h:B[j]? = some (.list ((highP hs).map (·.2)))) (h5:hs.length=5) (h1:lo≤r) (h2:r≤hi) (h3:hi≤5) (hr:∀ m,lo≤m→m < hi→(m < firstN hs x↔m < r)):Call g (n+1) false B (.top 50) [.ob j,.int x,.int lo,.int hi] [("key",.none)] (.int r) B:=by
  have l5:((highP hs).map (·.2)).length=5:=(List.length_map _).trans ((highP_len hs).trans h5)
  have w:=bl_N4 (g:=g) (n:=n) (hd:=false) (x:=x) (lo:=lo) (bd_sk4 mBl sBl.1 sBl.2) h (by rw [l5];decide) (highP_selfs hs).at (.int (leEq h3 l5.symm))
  rw [bsl_at hi lo hi h1 h2 (Nat.sub_le _ _) fun m a b=>(posL_iff x (highP_selfs hs).srt m (Nat.lt_of_lt_of_le b (leEq h3 ((highP_len hs).trans h5).symm))).trans (by rw [posL_high];exact hr m a b)] at w
  exact w
theorem lk_br {B:AHeap} {j lo hi r:Nat} (h:B[j]? = some (.list ((highP hs).map (·.2)))) (h5:hs.length=5) (h1:lo≤r) (h2:r≤hi) (h3:hi≤5) (hr:∀ m,lo≤m→m < hi→(m < behindN hs x↔m < r)):Call g (n+1) false B (.top 32) [.ob j,.int x,.int lo,.int hi] [("key",.none)] (.int r) B:=by
  have l5:((highP hs).map (·.2)).length=5:=(List.length_map _).trans ((highP_len hs).trans h5)
  have w:=br_N4 (g:=g) (n:=n) (hd:=false) (x:=x) (lo:=lo) (bd_sk4 mBr sBr.1 sBr.2) h (by rw [l5];decide) (highP_selfs hs).at (.int (leEq h3 l5.symm))
  rw [bsr_at hi lo hi h1 h2 (Nat.sub_le _ _) fun m a b=>(posR_iff x (highP_selfs hs).srt m (Nat.lt_of_lt_of_le b (leEq h3 ((highP_len hs).trans h5).symm))).trans (by rw [posR_high];exact hr m a b)] at w
  exact w
theorem row_keyed {B:AHeap} {i j m:Nat} {hd:Bool} (h1:B[j]? = some (lkKey i)) (h2:B[i]? = some (.cell (some (.ob m)))) (h3:B[m]? = some (.list (hs.map .int))) (h5:hs.length=5):Keyed g (n+1) hd B j (rpOf hs):=
  ⟨⟨_,_,_,_,_,_,h1⟩,fun p hp=>(rpOf_mem hp).elim fun k q=>q.1 ▸ lkKey_call h1 h2 h3 (by rw [h5];decide) q.2⟩
theorem lk_bl2 {B:AHeap} {j f lo hi r:Nat} (h:B[j]? = some (.list ((rpOf hs).map (·.2)))) (hK:Keyed g n false B f (rpOf hs)) (h5:hs.length=5) (h1:lo≤r) (h2:r≤hi) (h3:hi≤5) (hr:∀ m,lo≤m→m < hi→(m < firstN hs x↔m < r)):Call g (n+1) false B (.top 50) [.ob j,.int x,.int lo,.int hi] [("key",.ob f)] (.int r) B:=by
  have l5:((rpOf hs).map (·.2)).length=5:=(List.length_map _).trans ((rpOf_len hs).trans h5)
  obtain ⟨q,p,b,s,c,a,hj⟩:=hK.fn
  have w:=bl_K4 (x:=x) (lo:=lo) (bd_sk4 mBl sBl.1 sBl.2) h (by rw [l5];decide) hj hK.at (.int (leEq h3 l5.symm))
  rw [bsl_at hi lo hi h1 h2 (Nat.sub_le _ _) fun m a b=>(posL_iff x (rpOf_srt hs) m (Nat.lt_of_lt_of_le b (leEq h3 ((rpOf_len hs).trans h5).symm))).trans (by rw [posL_row];exact hr m a b)] at w
  exact w
theorem lk_br2 {B:AHeap} {j f lo hi r:Nat} (h:B[j]? = some (.list ((rpOf hs).map (·.2)))) (hK:Keyed g n false B f (rpOf hs)) (h5:hs.length=5) (h1:lo≤r) (h2:r≤hi) (h3:hi≤5) (hr:∀ m,lo≤m→m < hi→(m < behindN hs x↔m < r)):Call g (n+1) false B (.top 32) [.ob j,.int x,.int lo,.int hi] [("key",.ob f)] (.int r) B:=by
  have l5:((rpOf hs).map (·.2)).length=5:=(List.length_map _).trans ((rpOf_len hs).trans h5)
  obtain ⟨q,p,b,s,c,a,hj⟩:=hK.fn
  have w:=br_K4 (x:=x) (lo:=lo) (bd_sk4 mBr sBr.1 sBr.2) h (by rw [l5];decide) hj hK.at (.int (leEq h3 l5.symm))
  rw [bsr_at hi lo hi h1 h2 (Nat.sub_le _ _) fun m a b=>(posR_iff x (rpOf_srt hs) m (Nat.lt_of_lt_of_le b (leEq h3 ((rpOf_len hs).trans h5).symm))).trans (by rw [posR_row];exact hr m a b)] at w
  exact w
theorem iff_lo {c lo hi:Nat} (h:c≤lo):∀ m,lo≤m→m < hi→(m < c↔m < lo):=fun m a _=>⟨fun q=>absurd (Nat.lt_of_lt_of_le q h) (Nat.not_lt.mpr a),fun q=>absurd q (Nat.not_lt.mpr a)⟩
theorem iff_hi {c lo hi:Nat} (h:hi≤c):∀ m,lo≤m→m < hi→(m < c↔m < hi):=fun m _ b=>⟨fun _=>b,fun _=>Nat.lt_of_lt_of_le b h⟩
theorem bounds {first behind:Nat} (h1:first < behind) (h2:behind≤5):behind≤(behind+6) / 2∧(behind+6) / 2≤5∧first / 2≤first∧first≤5∧first / 2≤5:=by omega
noncomputable abbrev Pre (Q Q':AHeap):Prop:=∀ (k:Nat) (o:AObj),Q[k]? = some o→Q'[k]? = some o
noncomputable abbrev toldE:Expr:=asgV (sAt (whB lkF2) 2)
noncomputable abbrev tdC (g:Gx) (n i:Nat):Cx:=⟨g,n,kC (lkK i) (compS toldE) [("row",i+1),("past",i+6),("key",i+3),("high",i+2),("height",i+4),("half",i+5)]⟩
end
section
variable {g:Gx} {n:Nat} {H X E G:AHeap} {hi ri ci k ck:Nat} {hs:List Int} {cids:List Nat} {cs:List (List Int)} {x:Int} {l:Loc} {cv hv rv:AV} {ht hf pt:Option AV} {hg tw ws:List AV}
variable {B Q:AHeap} {i a j past half r1 r2 r3 k0 k1 k2 k3:Nat} {K:AV} {as:List AV}
noncomputable abbrev tdL (a j:Nat) (K:AV):Loc:=[("seek",.top a),("line",.ob j),("by",K)]
noncomputable abbrev tdM (a j:Nat) (K:AV):Loc:=[("seek",.top a),("line",.ob j),("by",K),("low",.int 0),("top",.int 5)]
theorem told3g (b4:B[i+4]? = some (.cell (some (.int x)))) (hf:(defTab.any fun d=>d.addr == a)=true)
    (c1:∀ X,Call g n false (B++X) (.top a) [.ob j,.int x,.int past,.int 5] [("key",K)] (.int r1) (B++X)) (c2:∀ X,Call g n false (B++X) (.top a) [.ob j,.int x,.int 0,.int half] [("key",K)] (.int r2) (B++X)) (c3:∀ X,Call g n false (B++X) (.top a) [.ob j,.int x,.int 0,.int 5] [("key",K)] (.int r3) (B++X))
    (f0:Q[k0]? = some (.tup [.ob (B.length+(k1+1)),.ob (B.length+(k2+1)),.ob (B.length+(k3+1))])) (f1:Q[k1]? = some (.tup [.int past,.int 5])) (f2:Q[k2]? = some (.tup [.int 0,.int half])) (f3:Q[k3]? = some (.tup [.int 0,.int 5])) (hl:as.length≤20) :
    Ge (tdC g n i) (tdL a j K) (B++(.list as :: Q)) (compElt toldE) ((compGs toldE).drop 2) (.tup (B.length+(k0+1)) 0) B.length (tdM a j K) (B++(.list (as++[.int r1]++[.int r2]++[.int r3]) :: Q)):=by
  have l0:as.length≤1000:=Nat.le_trans hl (by decide)
  have l1:(as++[AV.int r1]).length≤1000:=by rw [List.length_append];exact Nat.le_trans (Nat.add_le_add_right hl 1) (by decide)
  have l2:(as++[AV.int r1]++[AV.int r2]).length≤1000:=by rw [List.length_append,List.length_append];exact Nat.le_trans (Nat.add_le_add_right hl 2) (by decide)
  apply ge_asL
  · repeat clear Zg
    · apply ev_openCall
      · exact rfl
      repeat clear Zg
      · exact c1 _
    repeat clear Zg
    · apply ev_openCall
      · exact rfl
      repeat clear Zg
      · exact c2 _
    repeat clear Zg
    · apply ev_openCall
      · exact rfl
      repeat clear Zg
      · exact c3 _
    repeat clear Zg
  · exact rfl
theorem told3 (b6:B[i+6]? = some (.cell (some (.int past)))) (b5:B[i+5]? = some (.cell (some (.int half)))) (b4:B[i+4]? = some (.cell (some (.int x)))) (hf:(defTab.any fun d=>d.addr == a)=true)
    (c1:∀ X,Call g n false (B++X) (.top a) [.ob j,.int x,.int past,.int 5] [("key",K)] (.int r1) (B++X)) (c2:∀ X,Call g n false (B++X) (.top a) [.ob j,.int x,.int 0,.int half] [("key",K)] (.int r2) (B++X)) (c3:∀ X,Call g n false (B++X) (.top a) [.ob j,.int x,.int 0,.int 5] [("key",K)] (.int r3) (B++X))
    (hl:as.length≤20):∃ it2 Q',Pre Q Q'∧It (tdC g n i) (tdL a j K) (B++(.list as :: Q)) (((compGs toldE)[2]?.getD default).iter) it2 (B++(.list as :: Q'))∧compIt it2=true ∧
    Ge (tdC g n i) (tdL a j K) (B++(.list as :: Q')) (compElt toldE) ((compGs toldE).drop 2) it2 B.length (tdM a j K) (B++(.list (as++[.int r1]++[.int r2]++[.int r3]) :: Q')):=by
  have q:=told3g (Q:=Q++[AObj.tup [.int past,.int 5]]++[AObj.tup [.int 0,.int half]]++[AObj.tup [.int 0,.int 5]]++[AObj.tup [.ob (B.length+(Q.length+1)),.ob (B.length+((Q++[AObj.tup [.int past,.int 5]]).length+1)),.ob (B.length+((Q++[AObj.tup [.int past,.int 5]]++[AObj.tup [.int 0,.int half]]).length+1))]]) b4 hf c1 c2 c3 get_last (getOld (getOld (getOld get_last))) (getOld (getOld get_last)) (getOld get_last) hl
  refine ⟨_,_,fun k o h=>getOld (getOld (getOld (getOld h))),?_,rfl,q⟩
  apply it_open
  · exact rfl
  apply it_tup
  · apply ev_as
    · repeat clear Zg
    · exact rfl
    · exact rfl
  · exact getKc get_last
noncomputable abbrev Stl (g:Gx) (n:Nat) (B:AHeap) (a j:Nat) (x:Int) (K:AV) (past half r1 r2 r3:Nat):Prop:=
  ∀ X,Call g n false (B++X) (.top a) [.ob j,.int x,.int past,.int 5] [("key",K)] (.int r1) (B++X)∧Call g n false (B++X) (.top a) [.ob j,.int x,.int 0,.int half] [("key",K)] (.int r2) (B++X)∧Call g n false (B++X) (.top a) [.ob j,.int x,.int 0,.int 5] [("key",K)] (.int r3) (B++X)
theorem told6g {j' r4 r5 r6:Nat} {K':AV} (b6:B[i+6]? = some (.cell (some (.int past)))) (b5:B[i+5]? = some (.cell (some (.int half)))) (b4:B[i+4]? = some (.cell (some (.int x)))) (hf:(defTab.any fun d=>d.addr == a)=true)
    (c:Stl g n B a j x K past half r1 r2 r3) (d:Stl g n B a j' x K' past half r4 r5 r6) (f0:Q[k0]? = some (.tup [.ob (B.length+(k1+1)),.ob (B.length+(k2+1))])) (f1:Q[k1]? = some (.tup [.ob j,K])) (f2:Q[k2]? = some (.tup [.ob j',K'])) (hl:as.length≤10):∃ Q',
    Ge (tdC g n i) [("seek",.top a)] (B++(.list as :: Q)) (compElt toldE) ((compGs toldE).drop 1) (.tup (B.length+(k0+1)) 0) B.length (tdM a j' K') (B++(.list (as++[.int r1]++[.int r2]++[.int r3]++[.int r4]++[.int r5]++[.int r6]) :: Q')):=by
  have l1:(as++[AV.int r1]++[AV.int r2]++[AV.int r3]).length≤20:=by rw [List.length_append,List.length_append,List.length_append];exact Nat.le_trans (Nat.add_le_add_right hl 3) (by decide)
  obtain ⟨it2,Q1,p0,p1,p2,p3⟩:=told3 (Q:=Q) (as:=as) b6 b5 b4 hf (fun X=>(c X).1) (fun X=>(c X).2.1) (fun X=>(c X).2.2) (Nat.le_trans hl (by decide))
  obtain ⟨it3,Q2,q0,q1,q2,q3⟩:=told3 (Q:=Q1) (as:=as++[.int r1]++[.int r2]++[.int r3]) b6 b5 b4 hf (fun X=>(d X).1) (fun X=>(d X).2.1) (fun X=>(d X).2.2) l1
  have g0:=p0 _ _ f0
  have g2:=p0 _ _ f2
  have h0:=q0 _ _ g0
  refine ⟨Q2,?_⟩
  apply ge_open
  · exact rfl
  apply ge_subE
  · rfl
  · repeat clear Zg
  · exact fs_nil
  · rfl
  · exact fun _ _=>rfl
  · exact p1
  · exact rfl
  · exact p2
  · exact p3
  apply ge_sub_loc (l1:=[("seek",.top a)]) (gr:=[])
  · exact sub_app [("seek",.top a)] _
  apply ge_subE
  · rfl
  · repeat clear Zg
  · exact fs_nil
  · rfl
  · exact fun _ _=>rfl
  · exact q1
  · exact rfl
  · exact q2
  · exact q3
  repeat clear Zg
end
section
variable {g:Gx} {n:Nat} {x:Int} {B Q:AHeap} {i a past half r1 r2 r3 r4 r5 r6 hg ri ky:Nat} {as:List AV}
theorem told6 (b6:B[i+6]? = some (.cell (some (.int past)))) (b5:B[i+5]? = some (.cell (some (.int half)))) (b4:B[i+4]? = some (.cell (some (.int x)))) (b3:B[i+3]? = some (.cell (some (.ob ky)))) (b2:B[i+2]? = some (.cell (some (.ob hg)))) (b1:B[i+1]? = some (.cell (some (.ob ri)))) (hf:(defTab.any fun d=>d.addr == a)=true)
    (c:Stl g n B a hg x .none past half r1 r2 r3) (d:Stl g n B a ri x (.ob ky) past half r4 r5 r6) (hl:as.length≤10):∃ it2 Q1 Q2,It (tdC g n i) [("seek",.top a)] (B++(.list as :: Q)) (((compGs toldE)[1]?.getD default).iter) it2 (B++(.list as :: Q1))∧compIt it2=true ∧
    Ge (tdC g n i) [("seek",.top a)] (B++(.list as :: Q1)) (compElt toldE) ((compGs toldE).drop 1) it2 B.length (tdM a ri (.ob ky)) (B++(.list (as++[.int r1]++[.int r2]++[.int r3]++[.int r4]++[.int r5]++[.int r6]) :: Q2)):=by
  obtain ⟨Q2,q⟩:=told6g (Q:=Q++[AObj.tup [.ob hg,.none]]++[AObj.tup [.ob ri,.ob ky]]++[AObj.tup [.ob (B.length+(Q.length+1)),.ob (B.length+((Q++[AObj.tup [.ob hg,.none]]).length+1))]]) b6 b5 b4 hf c d get_last (getOld (getOld get_last)) (getOld get_last) hl
  refine ⟨_,_,Q2,?_,rfl,q⟩
  apply it_open
  · exact rfl
  apply it_tup
  · apply ev_as
    · repeat clear Zg
    · exact rfl
    · exact rfl
  · exact getKc get_last
theorem told12 {H E:AHeap} {l:Loc} {r7 r8 r9 s1 s2 s3:Nat} (i_:H.length=i) (hB:B=H++(E++[.tup [.top 50,.top 32]])) (b6:B[i+6]? = some (.cell (some (.int past)))) (b5:B[i+5]? = some (.cell (some (.int half)))) (b4:B[i+4]? = some (.cell (some (.int x)))) (b3:B[i+3]? = some (.cell (some (.ob ky)))) (b2:B[i+2]? = some (.cell (some (.ob hg)))) (b1:B[i+1]? = some (.cell (some (.ob ri))))
    (c:Stl g n B 50 hg x .none past half r1 r2 r3) (d:Stl g n B 50 ri x (.ob ky) past half r4 r5 r6) (c':Stl g n B 32 hg x .none past half r7 r8 r9) (d':Stl g n B 32 ri x (.ob ky) past half s1 s2 s3):∃ Q,
    Lc ⟨g,n,lkK i⟩ l (H++E) (compElt toldE) (compGs toldE) (compS toldE) B.length (B++(.list [.int r1,.int r2,.int r3,.int r4,.int r5,.int r6,.int r7,.int r8,.int r9,.int s1,.int s2,.int s3] :: Q)):=by
  obtain ⟨it2,Q1,Q2,p1,p2,p3⟩:=told6 (Q:=[]) (as:=[]) b6 b5 b4 b3 b2 b1 rfl c d (by decide)
  obtain ⟨it3,Q3,Q4,q1,q2,q3⟩:=told6 (Q:=Q2) (as:=[]++[.int r1]++[.int r2]++[.int r3]++[.int r4]++[.int r5]++[.int r6]) b6 b5 b4 b3 b2 b1 rfl c' d' (Nat.le_of_ble_eq_true rfl)
  have ht:B[H.length+E.length]? = some (.tup [.top 50,.top 32]):=hB ▸ getLE
  refine ⟨Q4,?_⟩
  apply lc_mk (H1:=B) (it:=.tup (H.length+E.length) 0)
  · exact rfl
  · exact ⟨by kernel_rfl,by kernel_rfl,by kernel_rfl⟩
  · rfl
  · exact fun _ _=>rfl
  · rfl
  · exact rfl
  · apply it_open
    · exact rfl
    apply it_tup
    · rw [hB]
      apply ev_as
      · repeat clear Zg
      · exact rfl
      · exact rfl
    · exact ht
  · rfl
  · rfl
  · apply ge_open
    · exact rfl
    apply ge_subE
    · rfl
    · repeat clear Zg
    · exact fs_nil
    · rfl
    · exact fun _ _=>rfl
    · exact p1
    · exact rfl
    · exact p2
    · exact p3
    apply ge_sub_loc (l1:=[]) (gr:=[])
    · exact sub_nil
    apply ge_subE
    · rfl
    · repeat clear Zg
    · exact fs_nil
    · rfl
    · exact fun _ _=>rfl
    · exact q1
    · exact rfl
    · exact q2
    · exact q3
    exact ge_endE rfl (end_tup (getOld ht) (Nat.le_of_ble_eq_true rfl))
end
section
variable {g:Gx} {n:Nat} {H X E G Q B:AHeap} {i hi ri ci k ck t hg:Nat} {hs:List Int} {cids:List Nat} {cs:List (List Int)} {x:Int} {l:Loc} {ht hf pt:Option AV} {tw ws:List AV} {past half first behind cnt:Nat}
theorem cmp_as {op:CmpOp} {a b:AV} {r r':Bool} (h:Cmp g op a b H r) (e:r=r'):Cmp g op a b H r':=e ▸ h
theorem nself {α:Type} [BEq α] [ReflBEq α] {a:α}:(!(a == a))=false:=by rw [beq_self_eq_true];rfl
theorem c_ne_same {j:Nat} {L:List AV} (hL:∃ xs:List Int,L=xs.map .int) (h1:H[i]? = some (.list L)) (h2:H[j]? = some (.list L)):Cmp g .NotEq (.ob i) (.ob j) H false:=by
  obtain ⟨xs,rfl⟩:=hL
  exact cmp_as (c_ne_list embInt h1 h2 (fun _ _=>trivial) (fun _ _=>trivial)) nself
theorem ne_int_self {a b:Int} (e:a=b):Cmp g .NotEq (.int a) (.int b) H false:=by
  subst e
  exact cmp_as c_ne_int nself
theorem lk_a3 (b6:B[i+6]? = some (.cell (some (.int past)))) (b5:B[i+5]? = some (.cell (some (.int half)))) (b4:B[i+4]? = some (.cell (some (.int x)))) (b2:B[i+2]? = some (.cell (some (.ob hg)))) (bc:B[ci]? = some (.list (cids.map .ob))) (hk:cids[k]? = some ck) (hc:cids.length≤20)
    (bt:(B++X)[t]? = some (.list [.int past,.int half,.int first,.int past,.int half,.int first,.int past,.int half,.int behind,.int past,.int half,.int behind]))
    (hidx:∀ X,Call g (n+1) false (B++X) (.top 99) [.ob hg,.int x] [] (.int first) (B++X)) (hcnt:∀ X,Call g (n+1) false (B++X) (.top 92) [.ob ci,.ob ck] [] (.int cnt) (B++X)) (hsub:(first:Int) - (behind:Int)=-(cnt:Int))
    (l1:l.lookup ("told" : Str)=some (.ob t)) (l2:l.lookup ("first" : Str)=some (.int first)) (l3:l.lookup ("behind" : Str)=some (.int behind)) (l4:l.lookup ("curves" : Str)=some (.ob ci)) (l5:l.lookup ("name" : Str)=some (.int k)):∃ Q,
    St ⟨g,n+1,lkK i⟩ l (B++X) (sAt (whB lkF2) 3) ⟨.next,l,B++(X++Q)⟩:=by
  have e1:(cids.map AV.ob)[k]? = some (.ob ck):=(List.getElem?_map ..).trans (congrArg _ hk)
  have c20:(cids.map AV.ob).length≤1000:=by rw [List.length_map];exact Nat.le_trans hc (by decide)
  apply Exists.intro
  apply st_as (H2:=B++(X++_))
  clear Zg
  apply st_f
  · apply ts_row
    apply al_go (q:=false) rfl
    · repeat clear Zg
      · exact c_ne_same ⟨[past,half,first,past,half,first,past,half,behind,past,half,behind],rfl⟩ (getOldE (getOldE (getOldE (getOldE (getOldE bt))))) getLE
    apply al_go (q:=false) rfl
    · repeat clear Zg
      · exact hidx _
      repeat clear Zg
      · exact ne_int_self rfl
    apply al_go (q:=false) rfl
    · repeat clear Zg
      · exact hcnt _
      repeat clear Zg
      · exact ne_int_self hsub
    exact al_nil
  · rfl
  · exact ex_nil
  · rfl
  · exact congrArg (B++·) (by simp only [List.append_assoc];rfl)
end
section
variable {g:Gx} {n:Nat} {H X E G Q B:AHeap} {i j f hi ri ci k ck t hg:Nat} {hs:List Int} {cids:List Nat} {cs:List (List Int)} {x:Int} {l:Loc} {ht hf pt:Option AV} {tw ws:List AV}
noncomputable abbrev pastN (hs:List Int) (x:Int):Nat:=(behindN hs x+6) / 2
noncomputable abbrev halfN (hs:List Int) (x:Int):Nat:=firstN hs x / 2
theorem bounds' (h5:hs.length=5) (hx:x∈hs):(behindN hs x≤pastN hs x∧pastN hs x≤5∧halfN hs x≤firstN hs x∧firstN hs x≤5∧halfN hs x≤5)∧behindN hs x≤5∧firstN hs x≤pastN hs x∧halfN hs x≤behindN hs x:=
  have b5:=leEq (behindN_le hs x) h5
  have b:=bounds (firstN_lt hx) b5
  ⟨b,b5,Nat.le_trans (firstN_le hs x) b.1,Nat.le_trans b.2.2.1 (firstN_le hs x)⟩
theorem stl_bl (h:B[j]? = some (.list ((highP hs).map (·.2)))) (h5:hs.length=5) (hx:x∈hs):Stl g (n+1) B 50 j x .none (pastN hs x) (halfN hs x) (pastN hs x) (halfN hs x) (firstN hs x):=
  have b:=bounds' h5 hx
  fun X=>⟨lk_bl (hi:=5) (getOld h) h5 (Nat.le_refl _) b.1.2.1 (Nat.le_refl _) (iff_lo b.2.2.1),lk_bl (lo:=0) (getOld h) h5 (Nat.zero_le _) (Nat.le_refl _) b.1.2.2.2.2 (iff_hi b.1.2.2.1),lk_bl (lo:=0) (hi:=5) (getOld h) h5 (Nat.zero_le _) b.1.2.2.2.1 (Nat.le_refl _) fun _ _ _=>Iff.rfl⟩
theorem stl_br (h:B[j]? = some (.list ((highP hs).map (·.2)))) (h5:hs.length=5) (hx:x∈hs):Stl g (n+1) B 32 j x .none (pastN hs x) (halfN hs x) (pastN hs x) (halfN hs x) (behindN hs x):=
  have b:=bounds' h5 hx
  fun X=>⟨lk_br (hi:=5) (getOld h) h5 (Nat.le_refl _) b.1.2.1 (Nat.le_refl _) (iff_lo b.1.1),lk_br (lo:=0) (getOld h) h5 (Nat.zero_le _) (Nat.le_refl _) b.1.2.2.2.2 (iff_hi b.2.2.2),lk_br (lo:=0) (hi:=5) (getOld h) h5 (Nat.zero_le _) b.2.1 (Nat.le_refl _) fun _ _ _=>Iff.rfl⟩
theorem stl_bl2 (h:B[j]? = some (.list ((rpOf hs).map (·.2)))) (hK:∀ X,Keyed g n false (B++X) f (rpOf hs)) (h5:hs.length=5) (hx:x∈hs):Stl g (n+1) B 50 j x (.ob f) (pastN hs x) (halfN hs x) (pastN hs x) (halfN hs x) (firstN hs x):=
  have b:=bounds' h5 hx
  fun X=>⟨lk_bl2 (hi:=5) (getOld h) (hK X) h5 (Nat.le_refl _) b.1.2.1 (Nat.le_refl _) (iff_lo b.2.2.1),lk_bl2 (lo:=0) (getOld h) (hK X) h5 (Nat.zero_le _) (Nat.le_refl _) b.1.2.2.2.2 (iff_hi b.1.2.2.1),lk_bl2 (lo:=0) (hi:=5) (getOld h) (hK X) h5 (Nat.zero_le _) b.1.2.2.2.1 (Nat.le_refl _) fun _ _ _=>Iff.rfl⟩
theorem stl_br2 (h:B[j]? = some (.list ((rpOf hs).map (·.2)))) (hK:∀ X,Keyed g n false (B++X) f (rpOf hs)) (h5:hs.length=5) (hx:x∈hs):Stl g (n+1) B 32 j x (.ob f) (pastN hs x) (halfN hs x) (pastN hs x) (halfN hs x) (behindN hs x):=
  have b:=bounds' h5 hx
  fun X=>⟨lk_br2 (hi:=5) (getOld h) (hK X) h5 (Nat.le_refl _) b.1.2.1 (Nat.le_refl _) (iff_lo b.1.1),lk_br2 (lo:=0) (getOld h) (hK X) h5 (Nat.zero_le _) (Nat.le_refl _) b.1.2.2.2.2 (iff_hi b.2.2.2),lk_br2 (lo:=0) (hi:=5) (getOld h) (hK X) h5 (Nat.zero_le _) b.2.1 (Nat.le_refl _) fun _ _ _=>Iff.rfl⟩
theorem same_as {a b:AV} {r r':Bool} (h:SameQ g H a b r) (e:r=r'):SameQ g H a b r':=e ▸ h
theorem high_index (h:B[j]? = some (.list ((highP hs).map (·.2)))) (hx:x∈hs):Call g (n+1) false B (.top 99) [.ob j,.int x] [] (.int (firstN hs x:Nat)) B:=by
  have S:=highP_selfs hs
  have hlt:firstN hs x < (highP hs).length:=(highP_len hs).symm ▸ Nat.lt_of_lt_of_le (firstN_lt hx) (behindN_le hs x)
  have len:((highP hs).map (·.2)).length=(highP hs).length:=List.length_map _
  have key:keyAt (highP hs) (firstN hs x)=x:=Int.le_antisymm ((posR_iff x S.srt _ hlt).mpr (posR_high hs x ▸ firstN_lt hx)) (Int.not_lt.mp fun q=>Nat.lt_irrefl _ (posL_high hs x ▸ (posL_iff x S.srt _ hlt).mp q))
  refine c_index h (S.at _ (len ▸ hlt)) ?_ fun m u hm hu=>?_
  · rw [key];exact same_as same_int (beq_self_eq_true x)
  · have hl:m < (highP hs).length:=Nat.lt_trans hm hlt
    have e:=Option.some.inj ((S.at m (len ▸ hl)).symm.trans hu)
    rw [←e]
    exact same_as same_int (beq_eq_false_iff_ne.mpr (Int.ne_of_lt ((posL_iff x S.srt m hl).mpr ((posL_high hs x).symm ▸ hm))))
theorem lk_a2 (s:Lc ⟨g,n,lkK i⟩ l H (compElt toldE) (compGs toldE) (compS toldE) t G):St ⟨g,n,lkK i⟩ l H (sAt (whB lkF2) 2) ⟨.next,upd "told" (.ob t) l,G⟩:=by
  apply st_openA
  · exact rfl
  apply st_assignC
  · kernel_rfl
  · exact fun _ _=>rfl
  · exact s
  · apply as_name
    exact sn_here (by kernel_rfl)
theorem lk_a1 {first behind:Nat} {hv rv:AV} {hg:List AV} (l2:l.lookup ("first" : Str)=some (.int first)) (l3:l.lookup ("behind" : Str)=some (.int behind)):∃ Q,
    St ⟨g,n,lkK H.length⟩ l (H++lkE H.length hv rv ht hf pt hg tw ws G) (sAt (whB lkF2) 1) ⟨.next,l,H++lkE H.length hv rv ht (some (.int (first / 2:Nat))) (some (.int ((behind+6) / 2:Nat))) hg tw ws (G++Q)⟩:=by
  apply Exists.intro
  apply st_as
  · repeat clear Zg
  · rfl
  · exact rfl
theorem ex_as {c:Cx} {l:Loc} {H:AHeap} {b b':List Stmt} {r:SOut} (h:b=b') (hx:Ex c l H b' r):Ex c l H b r:=h ▸ hx
theorem bodyF2:whB lkF2=[sAt (whB lkF2) 0,sAt (whB lkF2) 1,sAt (whB lkF2) 2,sAt (whB lkF2) 3]:=by kernel_rfl
theorem lk_turn (L:LkIn H hi ri ci hs cids cs) (hk:hs[k]? = some x):∃ G' hf' pt' M,
    Ex ⟨g,n+3,lkK H.length⟩ (upd "name" (.int (k:Nat)) (lkL H.length (.ob ci))) (H++lkE H.length (.ob hi) (.ob ri) (some (.int x)) hf pt ((highP hs).map (·.2)) ((highP hs).map (·.2)) ws G) (whB lkF2)
      ⟨.next,lkL H.length (.ob ci)++M,H++lkE H.length (.ob hi) (.ob ri) (some (.int x)) hf' pt' ((highP hs).map (·.2)) ((highP hs).map (·.2)) ws G'⟩:=by
  have hx:=List.mem_of_getElem? hk
  obtain ⟨ck,hck⟩:=at_len L.h5 L.c5 hk
  obtain ⟨G1,s0⟩:=lk_a0 (g:=g) (n:=n+3) (x:=x) (l:=upd "name" (.int (k:Nat)) (lkL H.length (.ob ci))) (E:=lkE H.length (.ob hi) (.ob ri) (some (.int x)) hf pt ((highP hs).map (·.2)) ((highP hs).map (·.2)) ws G) L.hi_ (by rw [L.h5];decide) rfl rfl
  obtain ⟨Q1,s1⟩:=lk_a1 (g:=g) (n:=n+3) (H:=H) (G:=G++G1) (hv:=.ob hi) (rv:=.ob ri) (ht:=some (.int x)) (hf:=hf) (pt:=pt) (hg:=(highP hs).map (·.2)) (tw:=(highP hs).map (·.2)) (ws:=ws) (first:=firstN hs x) (behind:=behindN hs x)
    (l:=upd "first" (.int (firstN hs x:Nat)) (upd "behind" (.int (behindN hs x:Nat)) (upd "name" (.int (k:Nat)) (lkL H.length (.ob ci))))) rfl rfl
  have r0:(H++(lkE H.length (.ob hi) (.ob ri) (some (.int x)) (some (.int (halfN hs x:Nat))) (some (.int (pastN hs x:Nat))) ((highP hs).map (·.2)) ((highP hs).map (·.2)) ws (G++G1++Q1)++[.tup [.top 50,.top 32]]))[ri]? = some (.list ((rpOf hs).map (·.2))):=getOld L.ri_
  have kd:∀ X,Keyed g (n+2) false ((H++(lkE H.length (.ob hi) (.ob ri) (some (.int x)) (some (.int (halfN hs x:Nat))) (some (.int (pastN hs x:Nat))) ((highP hs).map (·.2)) ((highP hs).map (·.2)) ws (G++G1++Q1)++[.tup [.top 50,.top 32]]))++X) (H.length+10) (rpOf hs):=fun X=>row_keyed (getOld (getK rfl)) (getOld (get0 rfl)) (getOld (getOld L.hi_)) L.h5
  obtain ⟨Q2,s2⟩:=told12 (g:=g) (n:=n+3) (l:=upd "first" (.int (firstN hs x:Nat)) (upd "behind" (.int (behindN hs x:Nat)) (upd "name" (.int (k:Nat)) (lkL H.length (.ob ci))))) (i:=H.length) (H:=H) rfl rfl (getK rfl) (getK rfl) (getK rfl) (getK rfl) (getK rfl) (getK rfl)
    (stl_bl (getK rfl) L.h5 hx) (stl_bl2 r0 (fun X=>(kd X)) L.h5 hx) (stl_br (getK rfl) L.h5 hx) (stl_br2 r0 (fun X=>(kd X)) L.h5 hx)
  obtain ⟨Q3,s3⟩:=lk_a3 (g:=g) (n:=n+2) (i:=H.length) (x:=x) (k:=k) (ck:=ck) (ci:=ci) (cids:=cids) (past:=pastN hs x) (half:=halfN hs x) (first:=firstN hs x) (behind:=behindN hs x) (cnt:=hs.countP (· == x)) (X:=_ :: Q2)
    (l:=upd "told" (.ob _) (upd "first" (.int (firstN hs x:Nat)) (upd "behind" (.int (behindN hs x:Nat)) (upd "name" (.int (k:Nat)) (lkL H.length (.ob ci))))))
    (B:=H++(lkE H.length (.ob hi) (.ob ri) (some (.int x)) (some (.int (halfN hs x:Nat))) (some (.int (pastN hs x:Nat))) ((highP hs).map (·.2)) ((highP hs).map (·.2)) ws (G++G1++Q1)++[.tup [.top 50,.top 32]]))
    (getK rfl) (getK rfl) (getK rfl) (getK rfl) (getOld L.ci_) hck (by rw [L.c5];decide) get_mid (fun X=>high_index (getOld (getK rfl)) hx) (fun X=>(app3 (H:=H)).symm ▸ L.count hk hck) (count_neg hs x) rfl rfl rfl rfl rfl
  exact ⟨_,_,_,_,ex_as bodyF2 (ex_cons s0 (ex_cons s1 (ex_cons (lk_a2 s2) (ex_cons (st_as s3 rfl app3) ex_nil))))⟩
theorem lk_loop2 (L:LkIn H hi ri ci hs cids cs):∀ (ys:List Int) (k:Nat) (ht hf pt:Option AV) (G:AHeap),hs.drop k=ys→∃ ht' hf' pt' G',
    Fr ⟨g,n+3,lkK H.length⟩ (lkL H.length (.ob ci)) (H++lkE H.length (.ob hi) (.ob ri) ht hf pt ((highP hs).map (·.2)) ((highP hs).map (·.2)) ws G) (forT lkF2) (.enum hi k) (whB lkF2) (forO lkF2)
      ⟨.next,lkL H.length (.ob ci),H++lkE H.length (.ob hi) (.ob ri) ht' hf' pt' ((highP hs).map (·.2)) ((highP hs).map (·.2)) ws G'⟩:=by
  intro ys
  induction ys with
  | nil=>exact fun k ht hf pt G h=>⟨ht,hf,pt,G,fr_end (end_enum (getOld L.hi_) (by rw [List.length_map];exact drop_n h)) ex_nil⟩
  | cons y ys ih =>
    intro k ht hf pt G h
    have e:=drop_c h
    have e1:(hs.map AV.int)[k]? = some (.int y):=(List.getElem?_map ..).trans (congrArg _ e.1)
    obtain ⟨G1,hf1,pt1,M,q1⟩:=lk_turn (g:=g) (n:=n) (hf:=hf) (pt:=pt) (ws:=ws) (G:=G) L e.1
    obtain ⟨ht',hf',pt',G',q2⟩:=ih (k+1) (some (.int y)) hf1 pt1 G1 e.2
    refine ⟨ht',hf',pt',G',?_⟩
    apply fr_step
    · apply turn_enum (getOld L.hi_) e1
      repeat clear Zg
    · exact q1
    · exact fr_sub (sub_app (lkL H.length (.ob ci)) M) q2
structure Lay (g:Gx) (n:Nat) (B:AHeap) (a:Nat) (K:AV) (xs:List AV):Prop where
  late:∀ X j v,(B++X)[j]? = some (.list xs)→xs[0]? = some v→Call g n false (B++X) (.top a) [.ob j,v,.int 5] [("key",K)] .none ((B++X).set j (.list (xs++[v])))
  soon:∀ X j v,(B++X)[j]? = some (.list xs)→xs[4]? = some v→Call g n false (B++X) (.top a) [.ob j,v,.int 0,.int 0] [("key",K)] .none ((B++X).set j (.list (v :: xs)))
  err:∀ X j v,xs[0]? = some v→CallX g n false (B++X) (.top a) [.ob j,v,.int (-1)] [("key",K)] (B++X).length (B++X++[.exc "lo must be non-negative"])
theorem bs_same {e:Nat→Int} {lo:Nat}:bsl e x lo lo lo=lo∧bsr e x lo lo lo=lo:=
  ⟨bsl_at lo lo lo (Nat.le_refl _) (Nat.le_refl _) (Nat.sub_le _ _) fun m a b=>absurd b (Nat.not_lt.mpr a),bsr_at lo lo lo (Nat.le_refl _) (Nat.le_refl _) (Nat.sub_le _ _) fun m a b=>absurd b (Nat.not_lt.mpr a)⟩
theorem ins_end {xs:List AV} (h5:xs.length=5) (v:AV):insAt xs 5 v=xs++[v]:=by
  unfold insAt;rw [List.take_of_length_le (Nat.le_of_eq h5),List.drop_eq_nil_of_le (Nat.le_of_eq h5)]
theorem lay_L1 (h5:hs.length=5):Lay g (n+2) B 41 .none ((highP hs).map (·.2)):=by
  have S:=highP_selfs hs
  have l5:((highP hs).map (·.2)).length=5:=(List.length_map _).trans ((highP_len hs).trans h5)
  refine ⟨fun X j v hj hv=>?_,fun X j v hj hv=>?_,fun X j v hv=>?_⟩
  · obtain rfl:=Option.some.inj (hv.symm.trans (S.at 0 (by rw [l5];decide)))
    have r:=il_N (g:=g) (n:=n) (hd:=false) (lo:=5) (x:=keyAt (highP hs) 0) (bd_sk3 mIl sIl.1 sIl.2 (k:=.none)) hj (by rw [l5];decide) S.at .none (by decide)
    rw [l5,bs_same.1,ins_end l5] at r
    exact r
  · obtain rfl:=Option.some.inj (hv.symm.trans (S.at 4 (by rw [l5];decide)))
    exact il_N (g:=g) (n:=n) (hd:=false) (lo:=0) (hi:=0) (x:=keyAt (highP hs) 4) (bd_sk4 mIl sIl.1 sIl.2 (k:=.none)) hj (by rw [l5];decide) S.at (.int (Nat.zero_le _)) (by decide)
  · exact il_xN (bd_sk3 mIl sIl.1 sIl.2 (k:=.none))
theorem lay_R1 (h5:hs.length=5):Lay g (n+2) B 23 .none ((highP hs).map (·.2)):=by
  have S:=highP_selfs hs
  have l5:((highP hs).map (·.2)).length=5:=(List.length_map _).trans ((highP_len hs).trans h5)
  refine ⟨fun X j v hj hv=>?_,fun X j v hj hv=>?_,fun X j v hv=>?_⟩
  · obtain rfl:=Option.some.inj (hv.symm.trans (S.at 0 (by rw [l5];decide)))
    have r:=ir_N (g:=g) (n:=n) (hd:=false) (lo:=5) (x:=keyAt (highP hs) 0) (bd_sk3 mIr sIr.1 sIr.2 (k:=.none)) hj (by rw [l5];decide) S.at .none (by decide)
    rw [l5,bs_same.2,ins_end l5] at r
    exact r
  · obtain rfl:=Option.some.inj (hv.symm.trans (S.at 4 (by rw [l5];decide)))
    exact ir_N (g:=g) (n:=n) (hd:=false) (lo:=0) (hi:=0) (x:=keyAt (highP hs) 4) (bd_sk4 mIr sIr.1 sIr.2 (k:=.none)) hj (by rw [l5];decide) S.at (.int (Nat.zero_le _)) (by decide)
  · exact ir_xN (bd_sk3 mIr sIr.1 sIr.2 (k:=.none))
theorem lay_L2 (h5:hs.length=5) (hK:∀ X,Keyed g n false (B++X) f (rpOf hs)) (hK1:∀ X,Keyed g (n+1) false (B++X) f (rpOf hs)):Lay g (n+2) B 41 (.ob f) ((rpOf hs).map (·.2)):=by
  have l5:((rpOf hs).map (·.2)).length=5:=(List.length_map _).trans ((rpOf_len hs).trans h5)
  refine ⟨fun X j v hj hv=>?_,fun X j v hj hv=>?_,fun X j v hv=>?_⟩
  · obtain ⟨q,p,b,s,c,a,hf⟩:=(hK X).fn
    obtain ⟨u,hu,hw⟩:=(hK1 X).at 0 (by rw [l5];decide)
    obtain rfl:=Option.some.inj (hv.symm.trans hu)
    have r:=il_K (lo:=5) (bd_sk3 mIl sIl.1 sIl.2) hj (by rw [l5];decide) hf hw (hK X).at .none (by decide)
    rw [l5,bs_same.1,ins_end l5] at r
    exact r
  · obtain ⟨q,p,b,s,c,a,hf⟩:=(hK X).fn
    obtain ⟨u,hu,hw⟩:=(hK1 X).at 4 (by rw [l5];decide)
    obtain rfl:=Option.some.inj (hv.symm.trans hu)
    exact il_K (lo:=0) (hi:=0) (bd_sk4 mIl sIl.1 sIl.2) hj (by rw [l5];decide) hf hw (hK X).at (.int (Nat.zero_le _)) (by decide)
  · obtain ⟨q,p,b,s,c,a,hf⟩:=(hK X).fn
    obtain ⟨u,hu,hw⟩:=(hK1 X).at 0 (by rw [l5];decide)
    obtain rfl:=Option.some.inj (hv.symm.trans hu)
    exact il_xK hf hw (bd_sk3 mIl sIl.1 sIl.2)
theorem lay_R2 (h5:hs.length=5) (hK:∀ X,Keyed g n false (B++X) f (rpOf hs)) (hK1:∀ X,Keyed g (n+1) false (B++X) f (rpOf hs)):Lay g (n+2) B 23 (.ob f) ((rpOf hs).map (·.2)):=by
  have l5:((rpOf hs).map (·.2)).length=5:=(List.length_map _).trans ((rpOf_len hs).trans h5)
  refine ⟨fun X j v hj hv=>?_,fun X j v hj hv=>?_,fun X j v hv=>?_⟩
  · obtain ⟨q,p,b,s,c,a,hf⟩:=(hK X).fn
    obtain ⟨u,hu,hw⟩:=(hK1 X).at 0 (by rw [l5];decide)
    obtain rfl:=Option.some.inj (hv.symm.trans hu)
    have r:=ir_K (lo:=5) (bd_sk3 mIr sIr.1 sIr.2) hj (by rw [l5];decide) hf hw (hK X).at .none (by decide)
    rw [l5,bs_same.2,ins_end l5] at r
    exact r
  · obtain ⟨q,p,b,s,c,a,hf⟩:=(hK X).fn
    obtain ⟨u,hu,hw⟩:=(hK1 X).at 4 (by rw [l5];decide)
    obtain rfl:=Option.some.inj (hv.symm.trans hu)
    exact ir_K (lo:=0) (hi:=0) (bd_sk4 mIr sIr.1 sIr.2) hj (by rw [l5];decide) hf hw (hK X).at (.int (Nat.zero_le _)) (by decide)
  · obtain ⟨q,p,b,s,c,a,hf⟩:=(hK X).fn
    obtain ⟨u,hu,hw⟩:=(hK1 X).at 0 (by rw [l5];decide)
    obtain rfl:=Option.some.inj (hv.symm.trans hu)
    exact ir_xK hf hw (bd_sk3 mIr sIr.1 sIr.2)
end
section
variable {g:Gx} {n:Nat} {B E:AHeap} {i a m j:Nat} {K v cv:AV} {ws xs:List AV} {x0 x1 x2 x3 x4:Int}
noncomputable abbrev lkF3:Stmt:=sAt dLike.body 3
theorem Lay.lateE (L:Lay g n B a K xs) (h:E[m]? = some (.list xs)) (hv:xs[0]? = some v):Call g n false (B++E) (.top a) [.ob (B.length+m),v,.int 5] [("key",K)] .none (B++E.set m (.list (xs++[v]))):=by
  rw [←setk];exact L.late E _ v (getK h) hv
theorem Lay.soonE (L:Lay g n B a K xs) (h:E[m]? = some (.list xs)) (hv:xs[4]? = some v):Call g n false (B++E) (.top a) [.ob (B.length+m),v,.int 0,.int 0] [("key",K)] .none (B++E.set m (.list (v :: xs))):=by
  rw [←setk];exact L.soon E _ v (getK h) hv
theorem c_ne_none2 {H:AHeap} {i j:Nat} (h1:H[i]? = some (.list [.none,.none])) (h2:H[j]? = some (.list [.none,.none])):Cmp g .NotEq (.ob i) (.ob j) H false:=
  cmp_as (c_ne_list embNone (xs:=[(),()]) (ys:=[(),()]) h1 h2 (fun _ _=>trivial) (fun _ _=>trivial)) rfl
noncomputable abbrev lkL3 (i:Nat) (cv:AV) (a j:Nat) (K:AV):Loc:=[("curves",cv),("twin",.ob (i+8)),("words",.ob (i+9)),("lay",.top a),("line",.ob j),("by",K)]
theorem ex_end {c:Cx} {l l':Loc} {H H':AHeap} (e1:l=l') (e2:H=H'):Ex c l H [] ⟨.next,l',H'⟩:=e1 ▸ e2 ▸ ex_nil
theorem set_app3 {H E F:AHeap} {i:Nat} {o:AObj}:(H++E++F).set i o=(H++(E++F)).set i o:=by rw [app3]
theorem lk_try {X:AHeap} {l:Loc} (L:Lay g n B a K xs) (hv:xs[0]? = some v) (hx:xs.length≤100) (hf:(defTab.any fun d=>d.addr == a)=true) (hl:B[j]? = some (.list xs)) (hw:B[i+9]? = some (.list ws)) (hws:ws.length≤100)
    (l1:l.lookup ("lay" : Str)=some (.top a)) (l2:l.lookup ("line" : Str)=some (.ob j)) (l3:l.lookup ("by" : Str)=some K) (l4:(upd "error" (.ob (B++X).length) l).lookup ("words" : Str)=some (.ob (i+9))) (l5:(upd "error" (.ob (B++X).length) l).lookup ("error" : Str)=some (.ob (B++X).length)) :
    St ⟨g,n,lkK i⟩ l (B++X) (sAt (whB lkF3) 3) ⟨.next,(upd "error" (.ob (B++X).length) l).filter (fun p=>p.1 != "error"),(B++X++[AObj.exc "lo must be non-negative"]).set (i+9) (AObj.list (ws++[AV.str "lo must be non-negative"]))⟩:=by
  have gl:=getOld (E:=X) hl
  have hx':xs.length≤1000:=Nat.le_trans hx (by decide)
  have h0:Idx g (B++X) (.ob j) (.int 0) v:=i_list gl (by decide) (by decide) (show xs[(0:Int).toNat]? = some v from hv)
  have hws':ws.length≤1000:=Nat.le_trans hws (by decide)
  have gw:=getOld (E:=[.exc "lo must be non-negative"]) (getOld (E:=X) hw)
  apply st_openT
  · exact rfl
  apply st_try
  · kernel_rfl
  · kernel_rfl
  · apply ex_exc
    apply stx_expr
    · exact fun _ _=>rfl
    apply evx_call
    · exact fun _ _=>rfl
    · exact fun _ _=>⟨rfl,rfl,rfl⟩
    repeat clear Zg
    exact L.err X j v hv
  · repeat clear Zg
    · exact c_str get_last
    repeat clear Zg
theorem lk_body3 (L:Lay g n B a K [.int x0,.int x1,.int x2,.int x3,.int x4]) (hf:(defTab.any fun d=>d.addr == a)=true) (hl:B[j]? = some (.list [.int x0,.int x1,.int x2,.int x3,.int x4])) (hw:B[i+9]? = some (.list ws)) (hws:ws.length≤100):∃ Q M,
    Ex ⟨g,n,lkK i⟩ (lkL3 i cv a j K) (B++[]) (whB lkF3) ⟨.next,lkL3 i cv a j K++M,(B++Q).set (i+9) (.list (ws++[.str "lo must be non-negative"]))⟩:=by
  apply Exists.intro
  apply Exists.intro
  repeat clear Zg
  · exact L.lateE rfl rfl
  repeat clear Zg
  · exact L.soonE rfl rfl
  repeat clear Zg
  · apply st_f
    · apply ts_row
      apply al_go (q:=false) rfl
      · repeat clear Zg
        · exact c_ne_none2 (getK rfl) (getK rfl)
      apply al_go (q:=false) rfl
      · repeat clear Zg
        · exact c_ne_same ⟨[x0,x1,x2,x3,x4,x0],rfl⟩ (getK rfl) (getK rfl)
      apply al_go (q:=false) rfl
      · repeat clear Zg
        · exact c_ne_same ⟨[x4,x0,x1,x2,x3,x4],rfl⟩ (getK rfl) (getK rfl)
      exact al_nil
    · rfl
    · exact ex_nil
  clear Zg
  · exact lk_try L rfl (Nat.le_of_ble_eq_true rfl) hf hl hw hws rfl rfl rfl rfl rfl
  exact ex_end rfl set_app3
end
section
variable {g:Gx} {n:Nat} {H G:AHeap} {a j t u k hi ri ci:Nat} {K hv rv cv:AV} {ht hf pt:Option AV} {hg tw ws xs ts:List AV} {x0 x1 x2 x3 x4:Int} {hs:List Int} {cids:List Nat} {cs:List (List Int)}
noncomputable def forI:Stmt→Expr | .For _ e _ _ _=>e | _=>.Constant .none 0 default
noncomputable abbrev loM:AV:=.str "lo must be non-negative"
theorem lk_s9 {Q:AHeap}:((H++lkE H.length hv rv ht hf pt hg tw ws G)++Q).set (H.length+9) (.list xs)=H++lkE H.length hv rv ht hf pt hg tw xs (G++Q):=by rw [app3,setk];rfl
theorem lkG {o:AObj} (h:G[k]? = some o):(H++lkE H.length hv rv ht hf pt hg tw ws G)[H.length+(k+11)]? = some o:=getK h
theorem lk_turn3 (L:Lay g n (H++lkE H.length hv rv ht hf pt hg tw ws G) a K [.int x0,.int x1,.int x2,.int x3,.int x4]) (hf':(defTab.any fun d=>d.addr == a)=true) (hl:(H++lkE H.length hv rv ht hf pt hg tw ws G)[j]? = some (.list [.int x0,.int x1,.int x2,.int x3,.int x4])) (hws:ws.length≤100)
    (h1:G[t]? = some (.tup ts)) (h2:ts[k]? = some (.ob (H.length+(u+11)))) (h3:G[u]? = some (.tup [.top a,.ob j,K])):∃ Q,∀ r,
    Fr ⟨g,n,lkK H.length⟩ (lkL H.length cv) (H++lkE H.length hv rv ht hf pt hg tw (ws++[loM]) (G++Q)) (forT lkF3) (.tup (H.length+(t+11)) (k+1)) (whB lkF3) (forO lkF3) r →
    Fr ⟨g,n,lkK H.length⟩ (lkL H.length cv) (H++lkE H.length hv rv ht hf pt hg tw ws G) (forT lkF3) (.tup (H.length+(t+11)) k) (whB lkF3) (forO lkF3) r:=by
  obtain ⟨Q,M,q⟩:=lk_body3 (i:=H.length) (cv:=cv) L hf' hl (getK rfl) hws
  rw [lk_s9] at q
  refine ⟨Q,fun r w=>?_⟩
  have g1:=lkG (H:=H) (hv:=hv) (rv:=rv) (ht:=ht) (hf:=hf) (pt:=pt) (hg:=hg) (tw:=tw) (ws:=ws) h1
  have g3:=lkG (H:=H) (hv:=hv) (rv:=rv) (ht:=ht) (hf:=hf) (pt:=pt) (hg:=hg) (tw:=tw) (ws:=ws) h3
  apply fr_step
  · apply turn_tup g1 h2
    · clear Zg
    · repeat clear Zg
  · rw [List.append_nil] at q
    exact q
  · exact fr_sub (sub_app (lkL H.length cv) (("lay",.top a) :: ("line",.ob j) :: ("by",K) :: M)) w
noncomputable abbrev lkT (i ri G:Nat):AHeap:=[.tup [.top 41,.ob (i+7),.none],.tup [.top 23,.ob (i+7),.none],.tup [.top 41,.ob ri,.ob (i+10)],.tup [.top 23,.ob ri,.ob (i+10)],.tup [.ob (i+(G+11)),.ob (i+(G+1+11)),.ob (i+(G+2+11)),.ob (i+(G+3+11))]]
theorem app5 {a b c d e:AObj}:G++[a]++[b]++[c]++[d]++[e]=G++[a,b,c,d,e]:=by rw [as_app,app3,app3,app3];rfl
theorem len2 {a b:AObj}:(G++[a]++[b]).length=G.length+2:=by rw [len1,len1]
theorem len3 {a b c:AObj}:(G++[a]++[b]++[c]).length=G.length+3:=by rw [len1,len2]
theorem len4 {a b c d:AObj}:(G++[a]++[b]++[c]++[d]).length=G.length+4:=by rw [len1,len3]
theorem lk_it3 {l:Loc}:It ⟨g,n,lkK H.length⟩ l (H++lkE H.length hv (.ob ri) ht hf pt hg tw ws G) (forI lkF3) (.tup (H.length+(G.length+4+11)) 0) (H++lkE H.length hv (.ob ri) ht hf pt hg tw ws (G++lkT H.length ri G.length)):=by
  apply it_open
  · exact rfl
  apply it_tup
  · apply ev_as
    · repeat clear Zg
    · exact congrArg AV.ob (congrArg (H.length+·) (congrArg (·+11) len4))
    · exact congrArg (fun G=>H++lkE H.length hv (.ob ri) ht hf pt hg tw ws G) (app5.trans (by rw [len1,len2,len3];rfl))
  · exact lkG (getK rfl)
end
section
variable {g:Gx} {n:Nat} {H G E:AHeap} {a j t u k hi ri ci i:Nat} {K hv rv cv:AV} {ht hf pt:Option AV} {hg tw ws xs ts:List AV} {x0 x1 x2 x3 x4:Int} {hs:List Int} {cids:List Nat} {cs:List (List Int)}
theorem high_ints (hs:List Int):∃ xs:List Int,(highP hs).map (·.2)=xs.map .int:=⟨(highP hs).map (·.1),(List.map_congr_left fun p m=>(highP_selfs hs).slf p m).trans (List.map_map ..).symm⟩
theorem five_ints {L:List AV} (h5:L.length=5) (hL:∃ xs:List Int,L=xs.map .int):∃ x0 x1 x2 x3 x4,L=[.int x0,.int x1,.int x2,.int x3,.int x4]:=by
  obtain ⟨xs,rfl⟩:=hL
  obtain ⟨a,b,c,d,e,rfl⟩:=five ((List.length_map _).symm.trans h5)
  exact ⟨_,_,_,_,_,rfl⟩
noncomputable abbrev lkH3 (H G:AHeap) (hi ri:Nat) (ht hf pt:Option AV) (hs:List Int) (ws:List AV):AHeap:=H++lkE H.length (.ob hi) (.ob ri) ht hf pt ((highP hs).map (·.2)) ((highP hs).map (·.2)) ws G
theorem lk_loop3 (L:LkIn H hi ri ci hs cids cs):∃ G',
    St ⟨g,n+3,lkK H.length⟩ (lkL H.length cv) (lkH3 H G hi ri ht hf pt hs []) lkF3 ⟨.next,lkL H.length cv,lkH3 H G' hi ri ht hf pt hs [loM,loM,loM,loM]⟩:=by
  have lh:((highP hs).map (·.2)).length=5:=(List.length_map _).trans ((highP_len hs).trans L.h5)
  have lr:((rpOf hs).map (·.2)).length=5:=(List.length_map _).trans ((rpOf_len hs).trans L.h5)
  obtain ⟨x0,x1,x2,x3,x4,ex⟩:=five_ints lh (high_ints hs)
  obtain ⟨r0,r1,r2,r3,r4,er⟩:=five_ints lr (rp_ints hs)
  have kd:∀ m ws G X,Keyed g (m+1) false (lkH3 H G hi ri ht hf pt hs ws++X) (H.length+10) (rpOf hs):=fun m ws G X=>row_keyed (i:=H.length) (m:=hi) (getOld (getK rfl)) (getOld (get0 rfl)) (getOld (getOld L.hi_)) L.h5
  have y1:=fun ws G=>lay_L1 (g:=g) (n:=n+1) (B:=lkH3 H G hi ri ht hf pt hs ws) L.h5
  have y2:=fun ws G=>lay_R1 (g:=g) (n:=n+1) (B:=lkH3 H G hi ri ht hf pt hs ws) L.h5
  have y3:=fun ws G=>lay_L2 (g:=g) (n:=n+1) L.h5 (kd n ws G) (kd (n+1) ws G)
  have y4:=fun ws G=>lay_R2 (g:=g) (n:=n+1) L.h5 (kd n ws G) (kd (n+1) ws G)
  have hr:=fun ws G=>getOld (E:=lkE H.length (.ob hi) (.ob ri) ht hf pt ((highP hs).map (·.2)) ((highP hs).map (·.2)) ws G) L.ri_
  have h7:∀ ws G,(lkH3 H G hi ri ht hf pt hs ws)[H.length+7]? = some (.list ((highP hs).map (·.2))):=fun ws G=>getK rfl
  rw [ex] at y1 y2 h7
  rw [er] at y3 y4 hr
  obtain ⟨Q1,e1⟩:=lk_turn3 (G:=G++lkT H.length ri G.length) (cv:=cv) (t:=G.length+4) (k:=0) (u:=G.length+0) (y1 [] _) rfl (h7 _ _) (Nat.zero_le _) (getK rfl) rfl (getK rfl)
  obtain ⟨Q2,e2⟩:=lk_turn3 (G:=G++lkT H.length ri G.length++Q1) (cv:=cv) (t:=G.length+4) (k:=1) (u:=G.length+1) (y2 [loM] _) rfl (h7 _ _) (Nat.le_of_ble_eq_true rfl) (getOld (getK rfl)) rfl (getOld (getK rfl))
  obtain ⟨Q3,e3⟩:=lk_turn3 (G:=G++lkT H.length ri G.length++Q1++Q2) (cv:=cv) (t:=G.length+4) (k:=2) (u:=G.length+2) (y3 [loM,loM] _) rfl (hr _ _) (Nat.le_of_ble_eq_true rfl) (getOld (getOld (getK rfl))) rfl (getOld (getOld (getK rfl)))
  obtain ⟨Q4,e4⟩:=lk_turn3 (G:=G++lkT H.length ri G.length++Q1++Q2++Q3) (cv:=cv) (t:=G.length+4) (k:=3) (u:=G.length+3) (y4 [loM,loM,loM] _) rfl (hr _ _) (Nat.le_of_ble_eq_true rfl) (getOld (getOld (getOld (getK rfl)))) rfl (getOld (getOld (getOld (getK rfl))))
  refine ⟨G++lkT H.length ri G.length++Q1++Q2++Q3++Q4,?_⟩
  apply st_openF
  · exact rfl
  apply st_for
  · exact fun _ _=>rfl
  · rfl
  · exact lk_it3
  · apply e1
    apply e2
    apply e3
    apply e4
    exact fr_end (end_tup (lkG (getOld (getOld (getOld (getOld (getK rfl)))))) (Nat.le_of_ble_eq_true rfl)) ex_nil
theorem sortIns_self (k:Int) (v:AV):∀ ps:List (Int × AV),(sortIns k v ps).map (fun p=>(p.1,AV.int p.1))=sortIns k (.int k) (ps.map fun p=>(p.1,AV.int p.1))
  | []=>rfl
  | (l,u) :: r=>by
    rw [sortIns,List.map_cons,sortIns]
    by_cases h:k < l
    · rw [if_pos h,if_pos h];rfl
    · rw [if_neg h,if_neg h,List.map_cons,sortIns_self k v r]
theorem sortA_self:∀ ps acc:List (Int × AV),(sortA ps acc).map (fun p=>(p.1,AV.int p.1))=sortA (ps.map fun p=>(p.1,AV.int p.1)) (acc.map fun p=>(p.1,AV.int p.1))
  | [],acc=>rfl
  | (k,v) :: r,acc=>by rw [sortA,List.map_cons,sortA,sortA_self r,sortIns_self]
theorem highP_row (hs:List Int):(highP hs).map (·.2)=(rpOf hs).map fun p=>.int p.1:=by
  have:highP hs=(rpOf hs).map fun p=>(p.1,AV.int p.1):=by
    unfold rpOf named highP selfs
    rw [sortA_self,List.map_map]
    rw [show (fun p:Int × AV=>(p.1,AV.int p.1)) ∘ (fun p:Int × Nat=>(p.1,AV.int p.2))=(fun h=>(h,AV.int h)) ∘ Prod.fst from rfl,←List.map_map,List.zipIdx_map_fst];rfl
  rw [this,List.map_map];rfl
noncomputable def atK (hs:List Int):AV→AV:=fI .none fun j=>.int (hs[j.toNat]?.getD 0)
noncomputable def retE:Stmt→Expr
  | .Return (some e) _=>e
  | _ => default
noncomputable abbrev lkF4:Stmt:=sAt dLike.body 4
theorem lk_row {l:Loc} (L:LkIn H hi ri ci hs cids cs) (e0:E[0]? = some (.cell (some (.ob hi)))) (e1:E[1]? = some (.cell (some (.ob ri)))) :
    Ev ⟨g,n,lkK H.length⟩ l (H++E) (cmpR (boolN (retE lkF4) 1)) (.ob (H.length+E.length)) (H++(E++[.list ((highP hs).map (·.2))])):=by
  have w:(((rpOf hs).map (·.2)).filter (fun _=>true)).map (atK hs)=(highP hs).map (·.2):=by
    rw [List.filter_eq_self.mpr (fun _ _=>rfl),highP_row,List.map_map]
    exact List.map_congr_left fun p hp=>(rpOf_mem hp).elim fun k q=>by
      show atK hs p.2=_
      rw [q.1]
      show AV.int (hs[k]?.getD 0)=_
      rw [q.2];rfl
  have lr:((rpOf hs).map (·.2)).length=5:=(List.length_map _).trans ((rpOf_len hs).trans L.h5)
  have it:∀ v∈(rpOf hs).map (·.2),∃ (k:Nat) (x:Int),v = .int k∧hs[k]? = some x:=fun v m=>(List.mem_map.mp m).elim fun p hp=>(rpOf_mem hp.1).elim fun k q=>⟨k,p.1,hp.2.symm.trans q.1,q.2⟩
  have hl:(hs.map AV.int).length≤1000:=by rw [List.length_map,L.h5];decide
  (with_reducible apply ev_openC)
  · exact rfl
  apply ev_compE
  rw [←w]
  apply lc_x (st:=fun v=>upd "name" v []) (p:=fun _=>true) (f:=atK hs)
  · rfl
  · exact ⟨by kernel_rfl,by kernel_rfl,by kernel_rfl⟩
  · exact fun _ _=>rfl
  · rfl
  · exact rfl
  · apply it_list
    · repeat clear Zg
    · exact getOld L.ri_
  · rfl
  · exact Yl.list (getOld L.ri_) go_name _ 0 rfl
  · rw [lr];decide
  · intro v _ as
    repeat clear Zg
  · intro v _ as
    repeat clear Zg
  · intro v m _ as
    obtain ⟨k,x,rfl,hk⟩:=it v m
    have ek:(hs.map AV.int)[k]? = some (atK hs (.int k)):=(List.getElem?_map ..).trans (by rw [hk];show _=some (AV.int (hs[k]?.getD 0));rw [hk];rfl)
    have gh:=getOld (E:=[.list as]) (getOld (E:=E) L.hi_)
    repeat clear Zg
end
section
variable {g:Gx} {n:Nat} {H G E:AHeap} {hi ri ci i j:Nat} {hv rv cv v:AV} {ht hf pt:Option AV} {hg tw ws xs ts args:List AV} {hs:List Int} {cids:List Nat} {cs:List (List Int)} {kws binds:List (Str × AV)} {d:FD} {k:K} {l1 l2:Loc} {H1 H2:AHeap}
theorem callC (hm:d∈defTab) (hc:cellsN d.scope.names=E) (hk:kOf d false H.length=k) (hb:Bd g d args kws binds) (bs:Bs g k [] (H++E) binds l1 H1) (hx:Ex ⟨g,n,k⟩ l1 H1 d.body ⟨.ret v,l2,H2⟩):Call g (n+1) false H (.top d.addr) args kws v H2:=by
  apply call_ret hm hb
  · rw [hc,hk];exact bs
  · rw [hk];exact hx
theorem sb_cell {nm:Str} {v0:Option AV} {m:Nat} {l:Loc} (h:k.scope.names.lookup nm=some .cell) (hc:k.cells.lookup nm=some (H.length+m)) (hv:E[m]? = some (.cell v0)):SnB g k l (H++E) nm v l (H++E.set m (.cell (some v))):=by
  rw [←setk];exact sn_cell h hc (getK hv)
theorem sb_cell0 {nm:Str} {v0:Option AV} {l:Loc} (h:k.scope.names.lookup nm=some .cell) (hc:k.cells.lookup nm=some H.length) (hv:E[0]? = some (.cell v0)):SnB g k l (H++E) nm v l (H++E.set 0 (.cell (some v))):=sb_cell (m:=0) h hc hv
theorem c_eq_strs {q:Str} (hq:PyData.strOk q=true) (h1:H[i]? = some (.list [.str q,.str q,.str q,.str q])) (h2:H[j]? = some (.list [.str q,.str q,.str q,.str q])):Cmp g .Eq (.ob i) (.ob j) H true:=
  cmp_as (c_eq_list embStr (xs:=[q,q,q,q]) (ys:=[q,q,q,q]) h1 h2 (fun a m=>by cases List.eq_of_mem_replicate (n:=4) m;exact hq) (fun a m=>by cases List.eq_of_mem_replicate (n:=4) m;exact hq)) (beq_self_eq_true _)
theorem lk_ret (L:LkIn H hi ri ci hs cids cs):∃ Q,St ⟨g,n,lkK H.length⟩ (lkL H.length cv) (lkH3 H G hi ri ht hf pt hs [loM,loM,loM,loM]) lkF4 ⟨.ret (.bool true),lkL H.length cv,H++Q⟩:=by
  apply Exists.intro
  apply st_openR
  · exact rfl
  apply st_ret
  apply ev_and
  repeat clear Zg
  · exact c_eq_strs (by kernel_rfl) (getK rfl) (getK get_last)
  repeat clear Zg
  · exact lk_row L rfl rfl
  repeat clear Zg
  · exact c_eq_same (high_ints hs) (getK rfl) (getK get_last)
  repeat clear Zg
  · exact c_eq_same (high_ints hs) (getK rfl) (getK rfl)
theorem c_like (L:LkIn H hi ri ci hs cids cs):∃ G,Call g (n+4) false H (.top 141) [.ob ci,.ob hi,.ob ri] [] (.bool true) (H++G):=by
  have h20:hs.length≤20:=by rw [L.h5];decide
  obtain ⟨ht1,e1⟩:=lk_loop1 (g:=g) (n:=n) (hf:=none) (pt:=none) (rv:=.ob ri) (cv:=.ob ci) (ws:=[]) (G:=[.tup [.ob (H.length+7),.ob (H.length+8),.ob (H.length+9),.ob (H.length+10)]]) L.hi_ h20 hs [] none rfl
  obtain ⟨ht2,hf2,pt2,G2,e2⟩:=lk_loop2 (g:=g) (n:=n) (ws:=[]) L hs 0 ht1 none none [.tup [.ob (H.length+7),.ob (H.length+8),.ob (H.length+9),.ob (H.length+10)]] rfl
  obtain ⟨G3,e3⟩:=lk_loop3 (g:=g) (n:=n) (cv:=.ob ci) (G:=G2) (ht:=ht2) (hf:=hf2) (pt:=pt2) L
  obtain ⟨Q,e4⟩:=lk_ret (g:=g) (n:=n+3) (cv:=.ob ci) (G:=G3) (ht:=ht2) (hf:=hf2) (pt:=pt2) L
  refine ⟨Q,?_⟩
  apply callC (d:=dLike) (k:=lkK H.length) (E:=[.cell none,.cell none,.cell none,.cell none,.cell none,.cell none,.cell none]) (in_tab 16 rfl) (by kernel_rfl) (by kernel_rfl) (bd_3 (n1:="curves") (n2:="heights") (n3:="row") (in_tab 16 rfl) (by kernel_rfl) (by decide +kernel) (fun _ _ _ _ _ _ _ _=>by kernel_rfl))
  · apply bs_cons
    · exact sn_loc (by kernel_rfl)
    apply bs_cons
    · exact sb_cell0 (by kernel_rfl) rfl rfl
    apply bs_cons
    · exact sb_cell (by kernel_rfl) rfl rfl
    exact bs_nil
  repeat clear Zg
  · apply st_openF
    · exact rfl
    apply st_for
    · exact fun _ _=>rfl
    · rfl
    · apply it_list
      · repeat clear Zg
      · exact getOld L.hi_
    · exact e1
  apply ex_cons
  · apply st_openF
    · exact rfl
    apply st_for
    · exact fun _ _=>rfl
    · rfl
    · apply it_enum (fun _ _=>rfl) (by kernel_rfl)
      · repeat clear Zg
      · exact getOld L.hi_
    · exact e2
  apply ex_cons
  · exact e3
  exact ex_ret e4
end
section
variable {g:Gx} {n:Nat} {H B Q E:AHeap} {ci li ri i j a b k0:Nat} {cv lf rt v u:AV} {pr at_:Option AV} {xs ts as ls:List AV} {x:Nat→AV} {l:Loc}
theorem ev_openS {c:Cx} {l:Loc} {H H1:AHeap} {e e1 e2:Expr} {pos:Pos} {v:AV} (h:e = .Subscript e1 e2 pos) (hx:Ev c l H (.Subscript e1 e2 pos) v H1):Ev c l H e v H1:=h ▸ hx
noncomputable abbrev paK (i:Nat):K:=⟨dPairs.scope,dPairs.name ++ ".<locals>.",[("at",i+3),("pairs",i+2),("left",i+1),("curves",i)],false,dPairs.lam⟩
noncomputable abbrev paLE:Expr:=argN (asgV (sAt dPairs.body 0)) 0
noncomputable abbrev paC (g:Gx) (n i:Nat):Cx:=⟨g,n,kC (paK i) (compS paLE) [("left",i+1)]⟩
theorem pa_in (b1:B[i+1]? = some (.cell (some (.ob li)))) (hl:B[li]? = some (.list ls)) (ll:ls.length≤1000) (ha:ls[a]? = some u) (hb:ls[b]? = some v) (f0:Q[k0]? = some (.tup [.int a,.int b])) (hs:as.length≤100) :
    Ge (paC g n i) [("one",.int a),("two",.int b)] (B++(.list as :: Q)) (compElt paLE) ((compGs paLE).drop 2) (.tup (B.length+(k0+1)) 0) B.length [("one",.int a),("two",.int b),("place",.int b)] (B++(.list (as++[u]++[v]) :: Q)):=by
  have l0:as.length≤1000:=Nat.le_trans hs (by decide)
  have l1:(as++[u]).length≤1000:=by rw [List.length_append];exact Nat.le_trans (Nat.add_le_add_right hs 1) (by decide)
  apply ge_asL
  · repeat clear Zg
    · apply ev_openS
      · exact rfl
      repeat clear Zg
    repeat clear Zg
    · apply ev_openS
      · exact rfl
      repeat clear Zg
    repeat clear Zg
  · exact rfl
theorem rangeN5 {b r:Nat} (h:b+r=5):rangeN (b:Nat) 5 1=r:=by
  have:b≤5:=h ▸ Nat.le_add_right _ _
  obtain rfl:r=5 - b:=(Nat.sub_eq_of_eq_add (h.symm.trans (Nat.add_comm ..))).symm
  revert b;decide
noncomputable abbrev pairTo (x:Nat→AV) (a b r:Nat):List AV:=(List.range' b r).flatMap fun t=>[x a,x t]
theorem pa_mid (b1:B[i+1]? = some (.cell (some (.ob li)))) (hl:B[li]? = some (.list ls)) (ll:ls.length≤1000) (hx:∀ k,k < 5→ls[k]? = some (x k)) (ha:a < 5):∀ (r b:Nat) (as:List AV) (Q:AHeap),b+r=5→as.length+2 * r≤100→∃ Q',
    Ge (paC g n i) [("one",.int a)] (B++(.list as :: Q)) (compElt paLE) ((compGs paLE).drop 1) (.range (b:Nat) 1 r) B.length [("one",.int a)] (B++(.list (as++pairTo x a b r) :: Q')):=by
  intro r
  induction r with
  | zero =>
    intro b as Q h hs
    refine ⟨Q,?_⟩
    rw [show as++pairTo x a b 0=as from List.append_nil _]
    repeat clear Zg
  | succ r ih =>
    intro b as Q h hs
    have hb:b < 5:=by omega
    have q:=pa_in (g:=g) (n:=n) (as:=as) (Q:=Q++[.tup [.int a,.int b]]) b1 hl ll (hx a ha) (hx b hb) get_last (by omega)
    obtain ⟨Q',w⟩:=ih (b+1) (as++[x a]++[x b]) (Q++[.tup [.int a,.int b]]) (by omega) (by rw [List.length_append,List.length_append];show as.length+1+1+2 * r≤100;omega)
    refine ⟨Q',?_⟩
    rw [show as++[x a]++[x b]++pairTo x a (b+1) r=as++pairTo x a b (r+1) by rw [List.append_assoc,List.append_assoc];rfl] at w
    apply ge_open
    · exact rfl
    apply ge_subE
    · rfl
    · repeat clear Zg
    · exact fs_nil
    · rfl
    · exact fun _ _=>rfl
    · apply it_open
      · exact rfl
      apply it_tup
      · apply ev_as
        · repeat clear Zg
        · exact rfl
        · exact rfl
      · exact getKc get_last
    · exact rfl
    · rfl
    · exact q
    · exact ge_sub_loc (l1:=[("one",.int a)]) (gr:=[]) (sub_app [("one",.int a)] [("two",.int b),("place",.int b)]) w
theorem pa_turn (b1:B[i+1]? = some (.cell (some (.ob li)))) (hl:B[li]? = some (.list ls)) (ll:ls.length≤1000) (hx:∀ k,k < 5→ls[k]? = some (x k)) {r r':Nat} {z:Int} (ha:a+1+r=5) (hz:z=((a:Nat):Int)) (hs:as.length+2 * r≤100):∃ Q',∀ {l' H'},
    Ge (paC g n i) [] (B++(.list (as++pairTo x a (a+1) r) :: Q')) (compElt paLE) (compGs paLE) (.range (z+1) 1 r') B.length l' H'→Ge (paC g n i) [] (B++(.list as :: Q)) (compElt paLE) (compGs paLE) (.range z 1 (r'+1)) B.length l' H':=by
  subst hz
  obtain ⟨Q',w⟩:=pa_mid (g:=g) (n:=n) (a:=a) b1 hl ll hx (by omega) r (a+1) as Q ha hs
  refine ⟨Q',fun q=>?_⟩
  apply ge_open
  · exact rfl
  apply ge_subE
  · rfl
  · repeat clear Zg
  · exact fs_nil
  · rfl
  · exact fun _ _=>rfl
  · apply it_range2 (a:=((a+1:Nat):Int)) (b:=5) (fun _ _=>rfl) (by kernel_rfl)
    · repeat clear Zg
    · repeat clear Zg
    · exact ⟨⟨by omega,by omega⟩,by omega,by decide⟩
  · exact rfl
  · rfl
  · rw [rangeN5 ha];exact w
  · exact ge_sub_loc (l1:=[]) (gr:=[]) sub_nil q
theorem pa_list (b1:(H++E)[H.length+1]? = some (.cell (some (.ob li)))) (hl:H[li]? = some (.list ls)) (ll:ls.length≤1000) (hx:∀ k,k < 5→ls[k]? = some (x k)):∃ Q,
    Ev ⟨g,n,paK H.length⟩ l (H++E) paLE (.ob (H.length+E.length)) (H++(E++(.list (pairTo x 0 1 4++pairTo x 1 2 3++pairTo x 2 3 2++pairTo x 3 4 1) :: Q))):=by
  obtain ⟨Q1,q1⟩:=pa_turn (g:=g) (n:=n) (as:=[]) (Q:=[]) (a:=0) (r:=4) (r':=3) b1 (getOld hl) ll hx rfl rfl (Nat.le_of_ble_eq_true rfl)
  obtain ⟨Q2,q2⟩:=pa_turn (g:=g) (n:=n) (as:=[]++pairTo x 0 1 4) (Q:=Q1) (a:=1) (r:=3) (r':=2) b1 (getOld hl) ll hx rfl rfl (Nat.le_of_ble_eq_true rfl)
  obtain ⟨Q3,q3⟩:=pa_turn (g:=g) (n:=n) (as:=[]++pairTo x 0 1 4++pairTo x 1 2 3) (Q:=Q2) (a:=2) (r:=2) (r':=1) b1 (getOld hl) ll hx rfl rfl (Nat.le_of_ble_eq_true rfl)
  obtain ⟨Q4,q4⟩:=pa_turn (g:=g) (n:=n) (as:=[]++pairTo x 0 1 4++pairTo x 1 2 3++pairTo x 2 3 2) (Q:=Q3) (a:=3) (r:=1) (r':=0) b1 (getOld hl) ll hx rfl rfl (Nat.le_of_ble_eq_true rfl)
  refine ⟨Q4,?_⟩
  (with_reducible apply ev_openC)
  · exact rfl
  apply ev_as
  · apply ev_comp
    apply lc_mk (H1:=H++E) (it:=.range 0 1 4)
    · exact rfl
    · exact ⟨by kernel_rfl,by kernel_rfl,by kernel_rfl⟩
    · rfl
    · exact fun _ _=>rfl
    · rfl
    · exact rfl
    · apply it_range1 (b:=4) (fun _ _=>rfl) (by kernel_rfl)
      · repeat clear Zg
      · exact ⟨by decide,by decide⟩
    · rfl
    · rfl
    · apply q1
      apply q2
      apply q3
      apply q4
      apply ge_open
      · exact rfl
      repeat clear Zg
  · exact congrArg _ lenE
  · exact app3
end
noncomputable def dL (cp cq:List Int):List Nat:=[0,1,2].filter fun k=>decide (cp[k]?.getD 0≠cq[k]?.getD 0)
noncomputable def dEven (cp cq:List Int):Bool:=((dL cp cq++[2])[0]?.getD 0) % 2 == 0
noncomputable def natP (p:Nat→Bool):AV→Bool:=fI false fun j=>p j.toNat
noncomputable def binL:Expr→Expr
  | .BinOp l _ _ _=>l
  | _ => default
section
variable {g:Gx} {n:Nat} {H B Q E G:AHeap} {ci li ri i j a b p q jp jq ip iq:Nat} {cv lf rt v u:AV} {pr at_:Option AV} {ps ts zs cp cq:List Int} {cids:List AV} {l:Loc}
noncomputable abbrev paF:Stmt:=sAt dPairs.body 2
noncomputable abbrev paD:Expr:=binL (asgV (sAt (whB paF) 0))
theorem ev_openN {c:Cx} {l:Loc} {H H1:AHeap} {e:Expr} {nm:Str} {pos:Pos} {v:AV} (h:e = .Name nm pos) (hx:Ev c l H (.Name nm pos) v H1):Ev c l H e v H1:=h ▸ hx
theorem getD_get {α:Type} {xs:List α} {k:Nat} {d:α} (h:k < xs.length):xs[k]? = some (xs[k]?.getD d):=by rw [List.getElem?_eq_getElem h];rfl
theorem filter_natP (f:Nat→Bool):∀ ks:List Nat,((ks.map fun k:Nat=>AV.int k).filter (natP f)).map id=(ks.filter f).map fun k:Nat=>AV.int k
  | []=>rfl
  | k :: r=>by
    have ih:=filter_natP f r
    cases h:f k with
    | true=>rw [List.filter_cons_of_pos h,List.map_cons,List.map_cons,List.filter_cons_of_pos (p:=natP f) (a:=.int k) h,List.map_cons,ih];rfl
    | false=>rw [List.filter_cons_of_neg (ne_true_of_eq_false h),List.map_cons,List.filter_cons_of_neg (p:=natP f) (a:=.int k) (ne_true_of_eq_false h),ih]
theorem pa_diff (h0:B[i]? = some (.cell (some (.ob ci)))) (h2:B[i+2]? = some (.cell (some (.bytes ps)))) (h3:B[i+3]? = some (.cell (some (.int a)))) (hc:B[ci]? = some (.list cids)) (hp:ps[a]? = some (p:Int)) (hq:ps[a+1]? = some (q:Int)) (ip_:cids[p]? = some (.ob ip)) (iq_:cids[q]? = some (.ob iq))
    (hcp:B[ip]? = some (.list (cp.map .int))) (hcq:B[iq]? = some (.list (cq.map .int))) (l1:cp.length=3) (l2:cq.length=3) (hl:ps.length < 100) (hcl:cids.length≤1000) :
    Lc ⟨g,n,paK i⟩ l B (compElt paD) (compGs paD) (compS paD) B.length (B++[.list ((dL cp cq).map fun k:Nat=>.int k)]):=by
  have m1:(cp.map AV.int).length≤1000:=by rw [List.length_map,l1];decide
  have m2:(cq.map AV.int).length≤1000:=by rw [List.length_map,l2];decide
  have w:=filter_natP (fun k=>decide (cp[k]?.getD 0≠cq[k]?.getD 0)) [0,1,2]
  rw [show dL cp cq=[0,1,2].filter fun k=>decide (cp[k]?.getD 0≠cq[k]?.getD 0) from rfl,←w]
  apply lc_x (st:=fun v=>upd "k" v [])
  · rfl
  · exact ⟨by kernel_rfl,by kernel_rfl,by kernel_rfl⟩
  · exact fun _ _=>rfl
  · rfl
  · exact rfl
  · apply it_range1 (b:=3) (fun _ _=>rfl) (by kernel_rfl)
    · repeat clear Zg
    · exact ⟨by decide,by decide⟩
  · rfl
  · exact Yl.range go_name 3 0
  · exact Nat.le_of_ble_eq_true rfl
  · intro v _ as
    repeat clear Zg
  · intro v m as
    obtain ⟨k,hk,rfl⟩:=List.mem_map.mp m
    have k3:k < 3:=(List.mem_range'_1.mp (show k∈List.range' 0 3 from hk)).2
    have e1:(cp.map AV.int)[k]? = some (.int (cp[k]?.getD 0)):=(List.getElem?_map ..).trans (congrArg _ (getD_get (l1 ▸ k3)))
    have e2:(cq.map AV.int)[k]? = some (.int (cq[k]?.getD 0)):=(List.getElem?_map ..).trans (congrArg _ (getD_get (l2 ▸ k3)))
    have g0:=getOld (E:=[.list as]) h0
    have g2:=getOld (E:=[.list as]) h2
    have g3:=getOld (E:=[.list as]) h3
    have gc:=getOld (E:=[.list as]) hc
    have gp:=getOld (E:=[.list as]) hcp
    have gq:=getOld (E:=[.list as]) hcq
    repeat clear Zg
    exact cmp_as c_ne_int decide_not.symm
  · intro v m _ as
    apply ev_openN
    · exact rfl
    · exact ev_loc (by kernel_rfl) rfl
noncomputable abbrev paE (cv lf:AV) (pr at_:Option AV) (G:AHeap):AHeap:=.cell (some cv) :: .cell (some lf) :: .cell pr :: .cell at_ :: G
noncomputable abbrev paL (ri:Nat) (ts:List Int):Loc:=[("right",.ob ri),("turned",.bytes ts)]
theorem dL_head (cp cq:List Int):∃ d r,(dL cp cq).map (fun k:Nat=>AV.int k)++[AV.int 2]=AV.int (d:Nat) :: r∧(dL cp cq++[2])[0]?.getD 0=d∧((dL cp cq).map (fun k:Nat=>AV.int k)++[AV.int 2]).length≤100:=by
  have hl:((dL cp cq).map (fun k:Nat=>AV.int k)++[AV.int 2]).length≤100:=by
    rw [List.length_append,List.length_map]
    exact Nat.le_trans (Nat.add_le_add_right (List.length_filter_le _ _) 1) (by decide)
  cases h:dL cp cq with
  | nil=>exact ⟨2,[],rfl,rfl,h ▸ hl⟩
  | cons d r=>exact ⟨d,_,rfl,rfl,h ▸ hl⟩
theorem pa_st0 (h0:(H++E)[i]? = some (.cell (some (.ob ci)))) (h2:(H++E)[i+2]? = some (.cell (some (.bytes ps)))) (h3:(H++E)[i+3]? = some (.cell (some (.int a)))) (hc:(H++E)[ci]? = some (.list cids)) (hp:ps[a]? = some (p:Int)) (hq:ps[a+1]? = some (q:Int)) (ip_:cids[p]? = some (.ob ip)) (iq_:cids[q]? = some (.ob iq))
    (hcp:(H++E)[ip]? = some (.list (cp.map .int))) (hcq:(H++E)[iq]? = some (.list (cq.map .int))) (l1:cp.length=3) (l2:cq.length=3) (hl:ps.length < 100) (hcl:cids.length≤1000):∃ Q k d r,
    St ⟨g,n,paK i⟩ l (H++E) (sAt (whB paF) 0) ⟨.next,upd "parted" (.ob (H.length+k)) l,H++(E++Q)⟩∧(E++Q)[k]? = some (.list (.int (d:Nat) :: r))∧(AV.int (d:Nat) :: r).length≤1000∧dEven cp cq=(d % 2 == 0):=by
  obtain ⟨d,r,ed,e0,el⟩:=dL_head cp cq
  have q:=pa_diff (g:=g) (n:=n) (l:=l) h0 h2 h3 hc hp hq ip_ iq_ hcp hcq l1 l2 hl hcl
  have h1000:=Nat.le_trans el (show 100≤1000 by decide)
  refine ⟨[.list ((dL cp cq).map fun k:Nat=>.int k),.list [.int 2],.list (.int (d:Nat) :: r)],E.length+2,d,r,?_,getK rfl,ed ▸ h1000,by unfold dEven;rw [e0]⟩
  rw [←ed]
  apply st_as
  · apply st_openA
    · exact rfl
    apply st_assign
    · kernel_rfl
    · kernel_rfl
    · exact fun _ _=>rfl
    · apply ev_bin
      · exact ev_compE q
      · repeat clear Zg
      · repeat clear Zg
    · repeat clear Zg
  · rw [len2]
  · exact congrArg (H++·) (by rw [as_app,app3];rfl)
end
section
variable {g:Gx} {n:Nat} {H B Q E G:AHeap} {ci li ri i j a b p q jp jq ip iq k d:Nat} {cv lf rt v u:AV} {pr at_:Option AV} {ps ts zs cp cq:List Int} {cids r:List AV} {l:Loc}
theorem pa_st1 (h2:(H++E)[i+2]? = some (.cell (some (.bytes ps)))) (hd:(H++E)[j]? = some (.list (.int (d:Nat) :: r))) (hr:(AV.int (d:Nat) :: r).length≤1000) (hl:ps.length < 100) (l1:l.lookup ("parted" : Str)=some (.ob j)) (l2:l.lookup ("turned" : Str)=some (.bytes ts)) :
    St ⟨g,n,paK i⟩ l (H++E) (sAt (whB paF) 1) ⟨.next,upd "row" (.bytes (if (d % 2 == 0)=true then ts else ps)) l,H++E⟩:=by
  by_cases h:(d % 2 == 0)=true
  · rw [if_pos h]
    have w:(((d % 2:Nat):Int) == 0)=true:=by rw [eq_of_beq h];rfl
    repeat clear Zg
  · rw [if_neg h]
    have w:(((d % 2:Nat):Int) == 0)=false:=Bool.eq_false_iff.mpr fun e=>h (beq_iff_eq.mpr (Int.ofNat_inj.mp (eq_of_beq e)))
    repeat clear Zg
theorem pa_st2 {u w ju jw:Nat} (h3:(H++E)[i+3]? = some (.cell (some (.int a)))) (e1:zs[a]? = some (u:Int)) (e2:zs[a+1]? = some (w:Int)) (hl:zs.length < 100) (xu:∀ X,Call g (n+1) false (H++X) (.top 99) [.ob ri,.int u] [] (.int ju) (H++X)) (xw:∀ X,Call g (n+1) false (H++X) (.top 99) [.ob ri,.int w] [] (.int jw) (H++X)) (hlt:ju < jw)
    (l1:l.lookup ("right" : Str)=some (.ob ri)) (l2:l.lookup ("row" : Str)=some (.bytes zs)):St ⟨g,n+1,paK i⟩ l (H++E) (sAt (whB paF) 2) ⟨.next,l,H++E⟩:=by
  have hc:decide ((jw:Int) - (ju:Int)≤0)=false:=decide_eq_false (by omega)
  clear Zg
  apply st_f
  · repeat clear Zg
    · exact xw E
    repeat clear Zg
    · exact xu E
    repeat clear Zg
  · exact hc
  · exact ex_nil
theorem bodyP2:whB paF=[sAt (whB paF) 0,sAt (whB paF) 1,sAt (whB paF) 2]:=by kernel_rfl
theorem pa_body (hc:H[ci]? = some (.list cids)) (hcl:cids.length≤1000) (hp:ps[a]? = some (p:Int)) (hq:ps[a+1]? = some (q:Int)) (tp:ts[a]? = some (q:Int)) (tq:ts[a+1]? = some (p:Int)) (ip_:cids[p]? = some (.ob ip)) (iq_:cids[q]? = some (.ob iq)) (hcp:H[ip]? = some (.list (cp.map .int))) (hcq:H[iq]? = some (.list (cq.map .int)))
    (l1:cp.length=3) (l2:cq.length=3) (hl:ps.length < 100) (hl':ts.length < 100) (xp:∀ X,Call g (n+1) false (H++X) (.top 99) [.ob ri,.int p] [] (.int jp) (H++X)) (xq:∀ X,Call g (n+1) false (H++X) (.top 99) [.ob ri,.int q] [] (.int jq) (H++X))
    (hord:if dEven cp cq=true then jq < jp else jp < jq):∃ Q M,Ex ⟨g,n+1,paK H.length⟩ (paL ri ts) (H++paE (.ob ci) lf (some (.bytes ps)) (some (.int a)) G) (whB paF) ⟨.next,paL ri ts++M,H++paE (.ob ci) lf (some (.bytes ps)) (some (.int a)) (G++Q)⟩:=by
  obtain ⟨Q,k,d,r,e0,f0,f1,f2⟩:=pa_st0 (g:=g) (n:=n+1) (l:=paL ri ts) (i:=H.length) (H:=H) (E:=paE (.ob ci) lf (some (.bytes ps)) (some (.int a)) G) (get0 rfl) (getK rfl) (getK rfl) (getOld hc) hp hq ip_ iq_ (getOld hcp) (getOld hcq) l1 l2 hl hcl
  have e1:=pa_st1 (g:=g) (n:=n+1) (i:=H.length) (H:=H) (E:=paE (.ob ci) lf (some (.bytes ps)) (some (.int a)) G++Q) (ps:=ps) (ts:=ts) (l:=upd "parted" (.ob (H.length+k)) (paL ri ts)) (j:=H.length+k) (getK rfl) (getK f0) f1 hl rfl rfl
  rw [f2] at hord
  refine ⟨Q,_,ex_as bodyP2 (ex_cons e0 (ex_cons e1 (ex_cons (l1:=upd "row" (.bytes (if (d % 2 == 0)=true then ts else ps)) (upd "parted" (.ob (H.length+k)) (paL ri ts))) (H1:=H++(paE (.ob ci) lf (some (.bytes ps)) (some (.int a)) G++Q)) ?_ (ex_end rfl rfl))))⟩
  by_cases h:(d % 2 == 0)=true
  · rw [if_pos h] at hord ⊢
    exact pa_st2 (getK rfl) tp tq hl' xq xp hord rfl rfl
  · rw [if_neg h] at hord ⊢
    exact pa_st2 (getK rfl) hp hq hl xp xq hord rfl rfl
end
noncomputable def natsA (l:List Nat):List AV:=l.map fun k:Nat=>.int k
noncomputable def posOf (p:Nat):List Nat→Nat
  | []=>0
  | a :: r=>if a=p then 0 else posOf p r+1
theorem posOf_get {p:Nat}:∀ {l:List Nat},p∈l→l[posOf p l]? = some p
  | a :: r,h=>by
    rw [posOf]
    by_cases e:a=p
    · rw [if_pos e,e];rfl
    · rw [if_neg e]
      exact posOf_get ((List.mem_cons.mp h).resolve_left fun q=>e q.symm)
theorem posOf_ne {p:Nat}:∀ {l:List Nat} (j:Nat),j < posOf p l→l[j]?≠some p
  | [],j,h=>absurd h (Nat.not_lt_zero _)
  | a :: r,j,h=>by
    rw [posOf] at h
    by_cases e:a=p
    · rw [if_pos e] at h;exact absurd h (Nat.not_lt_zero _)
    · rw [if_neg e] at h
      cases j with
      | zero=>exact fun q=>e (Option.some.inj q)
      | succ j=>exact posOf_ne j (Nat.lt_of_succ_lt_succ h)
section
variable {g:Gx} {n:Nat} {H B Q E G:AHeap} {ci li ri i j a p k:Nat} {lf rt ps ts:List Nat} {cids:List Nat} {cs:List (List Int)} {lv:AV} {at_:Option AV} {l:Loc}
theorem nats_index (h:B[j]? = some (.list (natsA rt))) (hp:p∈rt):Call g (n+1) false B (.top 99) [.ob j,.int p] [] (.int (posOf p rt:Nat)) B:=by
  refine c_index h ((List.getElem?_map ..).trans (congrArg _ (posOf_get hp))) (same_as same_int (beq_self_eq_true _)) fun m u hm hu=>?_
  obtain ⟨v,hv,rfl⟩:=Option.map_eq_some_iff.mp ((List.getElem?_map ..).symm.trans hu)
  exact same_as same_int (beq_eq_false_iff_ne.mpr fun q=>posOf_ne m hm (by rw [hv,Int.ofNat_inj.mp q]))
structure PaIn (H:AHeap) (ci li ri:Nat) (cids:List Nat) (cs:List (List Int)) (lf rt:List Nat):Prop where
  s5:cs.length=5
  c5:cids.length=5
  f5:lf.length=5
  ci_:H[ci]? = some (.list (cids.map .ob))
  li_:H[li]? = some (.list (natsA lf))
  ri_:H[ri]? = some (.list (natsA rt))
  cc:∀ (k:Nat) c i,cs[k]? = some c→cids[k]? = some i→H[i]? = some (.list (c.map .int))∧c.length=3
  lf5:∀ p∈lf,p < 5∧p∈rt
  ord:∀ (a b:Nat) p q cp cq,a < b→lf[a]? = some p→lf[b]? = some q→cs[p]? = some cp→cs[q]? = some cq→if dEven cp cq=true then posOf q rt < posOf p rt else posOf p rt < posOf q rt
noncomputable abbrev paH (H G:AHeap) (ci:Nat) (lv:AV) (ps:List Nat) (at_:Option AV):AHeap:=H++paE (.ob ci) lv (some (.bytes (ps.map fun k:Nat=>(k:Int)))) at_ G
noncomputable abbrev intZ (ps:List Nat):List Int:=ps.map fun k:Nat=>(k:Int)
theorem intZ_get {k x:Nat} (h:ps[k]? = some x):(intZ ps)[k]? = some (x:Int):=(List.getElem?_map ..).trans (congrArg _ h)
theorem PaIn.turn (L:PaIn H ci li ri cids cs lf rt) {x y p q:Nat} (hxy:x < y) (hx:lf[x]? = some p) (hy:lf[y]? = some q) (hp:ps[a]? = some p) (hq:ps[a+1]? = some q) (tp:ts[a]? = some q) (tq:ts[a+1]? = some p) (hl:ps.length < 100) (hl':ts.length < 100) :
    ∃ Q M,Ex ⟨g,n+1,paK H.length⟩ (paL ri (intZ ts)) (paH H G ci lv ps (some (.int a))) (whB paF) ⟨.next,paL ri (intZ ts)++M,paH H (G++Q) ci lv ps (some (.int a))⟩:=by
  obtain ⟨p5,pr⟩:=L.lf5 p (List.mem_of_getElem? hx)
  obtain ⟨q5,qr⟩:=L.lf5 q (List.mem_of_getElem? hy)
  have ep:=List.getElem?_eq_getElem (L.s5.symm ▸ p5)
  have eq:=List.getElem?_eq_getElem (L.s5.symm ▸ q5)
  have fp:=List.getElem?_eq_getElem (L.c5.symm ▸ p5)
  have fq:=List.getElem?_eq_getElem (L.c5.symm ▸ q5)
  have up:=L.cc p _ _ ep fp
  have uq:=L.cc q _ _ eq fq
  exact pa_body L.ci_ (by rw [List.length_map,L.c5];decide) (intZ_get hp) (intZ_get hq) (intZ_get tp) (intZ_get tq) ((List.getElem?_map ..).trans (congrArg _ fp)) ((List.getElem?_map ..).trans (congrArg _ fq)) up.1 uq.1 up.2 uq.2 (by rw [List.length_map];exact hl) (by rw [List.length_map];exact hl')
    (fun X=>nats_index (getOld L.ri_) pr) (fun X=>nats_index (getOld L.ri_) qr) (L.ord x y p q _ _ hxy hx hy ep eq)
noncomputable abbrev tenP (l0 l1 l2 l3 l4:Nat):List Nat:=[l0,l1,l0,l2,l0,l3,l0,l4,l1,l2,l1,l3,l1,l4,l2,l3,l2,l4,l3,l4]
noncomputable abbrev tenT (l0 l1 l2 l3 l4:Nat):List Nat:=[l1,l0,l2,l0,l3,l0,l4,l0,l2,l1,l3,l1,l4,l1,l3,l2,l4,l2,l4,l3]
theorem ten_ix {l0 l1 l2 l3 l4:Nat}:∀ k:Nat,k < 10→∃ x y p q:Nat,x < y∧[l0,l1,l2,l3,l4][x]? = some p∧[l0,l1,l2,l3,l4][y]? = some q∧(tenP l0 l1 l2 l3 l4)[2 * k]? = some p∧(tenP l0 l1 l2 l3 l4)[2 * k+1]? = some q∧(tenT l0 l1 l2 l3 l4)[2 * k]? = some q∧(tenT l0 l1 l2 l3 l4)[2 * k+1]? = some p
  | 0,_=>⟨0,1,_,_,by decide,rfl,rfl,rfl,rfl,rfl,rfl⟩
  | 1,_=>⟨0,2,_,_,by decide,rfl,rfl,rfl,rfl,rfl,rfl⟩
  | 2,_=>⟨0,3,_,_,by decide,rfl,rfl,rfl,rfl,rfl,rfl⟩
  | 3,_=>⟨0,4,_,_,by decide,rfl,rfl,rfl,rfl,rfl,rfl⟩
  | 4,_=>⟨1,2,_,_,by decide,rfl,rfl,rfl,rfl,rfl,rfl⟩
  | 5,_=>⟨1,3,_,_,by decide,rfl,rfl,rfl,rfl,rfl,rfl⟩
  | 6,_=>⟨1,4,_,_,by decide,rfl,rfl,rfl,rfl,rfl,rfl⟩
  | 7,_=>⟨2,3,_,_,by decide,rfl,rfl,rfl,rfl,rfl,rfl⟩
  | 8,_=>⟨2,4,_,_,by decide,rfl,rfl,rfl,rfl,rfl,rfl⟩
  | 9,_=>⟨3,4,_,_,by decide,rfl,rfl,rfl,rfl,rfl,rfl⟩
  | k + 10,h=>absurd h (Nat.not_lt.mpr (Nat.le_add_left _ _))
theorem pa_loop {l0 l1 l2 l3 l4:Nat} (L:PaIn H ci li ri cids cs [l0,l1,l2,l3,l4] rt):∀ (r k:Nat) (at_:Option AV) (G:AHeap),k+r=10→∃ at' G',
    Fr ⟨g,n+1,paK H.length⟩ (paL ri (intZ (tenT l0 l1 l2 l3 l4))) (paH H G ci lv (tenP l0 l1 l2 l3 l4) at_) (forT paF) (.range ((2 * k:Nat):Int) 2 r) (whB paF) (forO paF) ⟨.next,paL ri (intZ (tenT l0 l1 l2 l3 l4)),paH H G' ci lv (tenP l0 l1 l2 l3 l4) at'⟩:=by
  intro r
  induction r with
  | zero=>exact fun k at_ G h=>⟨at_,G,fr_end end_range ex_nil⟩
  | succ r ih =>
    intro k at_ G h
    obtain ⟨x,y,p,q,hxy,hx,hy,hp,hq,tp,tq⟩:=ten_ix (l0:=l0) (l1:=l1) (l2:=l2) (l3:=l3) (l4:=l4) k (Nat.lt_of_lt_of_eq (Nat.lt_add_of_pos_right (Nat.succ_pos r)) h)
    obtain ⟨Q,M,e⟩:=L.turn (g:=g) (n:=n) (G:=G) (lv:=lv) hxy hx hy hp hq tp tq (Nat.le_of_ble_eq_true rfl) (Nat.le_of_ble_eq_true rfl)
    obtain ⟨at',G',w⟩:=ih (k+1) (some (.int (2 * k:Nat))) (G++Q) ((Nat.succ_add_eq_add_succ k r).trans h)
    refine ⟨at',G',?_⟩
    apply fr_step
    · apply turn_range go_name
      repeat clear Zg
    · exact e
    · exact fr_sub (sub_app (paL ri (intZ (tenT l0 l1 l2 l3 l4))) M) w
theorem swap_ten {l0 l1 l2 l3 l4:Nat}:blks (intZ (tenP l0 l1 l2 l3 l4)) 2 10 0 (List.replicate 20 0)=intZ (tenT l0 l1 l2 l3 l4):=by kernel_rfl
theorem ten_lt {P:Nat→Prop} {l0 l1 l2 l3 l4:Nat} (h0:P l0) (h1:P l1) (h2:P l2) (h3:P l3) (h4:P l4):∀ p∈tenP l0 l1 l2 l3 l4,P p:=List.forall_mem_cons.mpr ⟨h0,List.forall_mem_cons.mpr ⟨h1,List.forall_mem_cons.mpr ⟨h0,List.forall_mem_cons.mpr ⟨h2,List.forall_mem_cons.mpr ⟨h0,List.forall_mem_cons.mpr ⟨h3,List.forall_mem_cons.mpr ⟨h0,List.forall_mem_cons.mpr ⟨h4,List.forall_mem_cons.mpr ⟨h1,List.forall_mem_cons.mpr ⟨h2,List.forall_mem_cons.mpr ⟨h1,List.forall_mem_cons.mpr ⟨h3,List.forall_mem_cons.mpr ⟨h1,List.forall_mem_cons.mpr ⟨h4,List.forall_mem_cons.mpr ⟨h2,List.forall_mem_cons.mpr ⟨h3,List.forall_mem_cons.mpr ⟨h2,List.forall_mem_cons.mpr ⟨h4,List.forall_mem_cons.mpr ⟨h3,List.forall_mem_cons.mpr ⟨h4,fun _ m=>nomatch m⟩⟩⟩⟩⟩⟩⟩⟩⟩⟩⟩⟩⟩⟩⟩⟩⟩⟩⟩⟩
theorem c_pairs (L:PaIn H ci li ri cids cs lf rt):∃ G,Call g (n+2) false H (.top 156) [.ob ci,.ob li,.ob ri] [] (.bool true) (H++G):=by
  obtain ⟨l0,l1,l2,l3,l4,rfl⟩:=five L.f5
  have z:=fun p m=>(L.lf5 p m).1
  have zb:=ten_lt (P:=fun p=>p < 5) (z l0 (.head _)) (z l1 (.tail _ (.head _))) (z l2 (.tail _ (.tail _ (.head _)))) (z l3 (.tail _ (.tail _ (.tail _ (.head _))))) (z l4 (.tail _ (.tail _ (.tail _ (.tail _ (.head _))))))
  have zz:∀ y∈intZ (tenP l0 l1 l2 l3 l4),0≤y∧y < 256:=fun y m=>(List.mem_map.mp m).elim fun k q=>q.2 ▸ ⟨Int.natCast_nonneg _,Int.ofNat_lt.mpr (Nat.lt_trans (zb k q.1) (by decide))⟩
  obtain ⟨Q1,e1⟩:=pa_list (g:=g) (n:=n+1) (H:=H) (E:=[.cell (some (.ob ci)),.cell (some (.ob li)),.cell none,.cell none]) (l:=[("right",.ob ri)]) (x:=fun k=>((natsA [l0,l1,l2,l3,l4])[k]?).getD .none) (getK rfl) L.li_ (Nat.le_of_ble_eq_true rfl) fun k hk=>getD_get hk
  have e2:=fun X=>c_swap (g:=g) (n:=n) (H:=H++X) (ys:=intZ (tenP l0 l1 l2 l3 l4)) (w:=2) (q:=10) (by decide) (by decide) rfl (Nat.le_of_ble_eq_true rfl) zz
  obtain ⟨at',G',e3⟩:=pa_loop (g:=g) (n:=n) (lv:=.ob li) L 10 0 none ((.list (intZ (tenP l0 l1 l2 l3 l4) |>.map .int) :: Q1)++[.barr (blks (intZ (tenP l0 l1 l2 l3 l4)) 2 10 0 (List.replicate 20 0))]) rfl
  apply Exists.intro
  apply callC (d:=dPairs) (k:=paK H.length) (E:=[.cell none,.cell none,.cell none,.cell none]) (in_tab 19 rfl) (by kernel_rfl) (by kernel_rfl) (bd_3 (n1:="curves") (n2:="left") (n3:="right") (in_tab 19 rfl) (by kernel_rfl) (by decide +kernel) (fun _ _ _ _ _ _ _ _=>by kernel_rfl))
  · apply bs_cons
    · exact sb_cell0 (by kernel_rfl) rfl rfl
    apply bs_cons
    · exact sb_cell (by kernel_rfl) rfl rfl
    apply bs_cons
    · exact sn_loc (by kernel_rfl)
    exact bs_nil
  repeat clear Zg
  · exact e1
  repeat clear Zg
  · exact c_bytes (l:=intZ (tenP l0 l1 l2 l3 l4)) (getK get_mid) (Nat.le_of_ble_eq_true rfl) zz
  repeat clear Zg
  · exact call_cast (e2 _) (congrArg AV.bytes swap_ten) app3
  repeat clear Zg
  · apply st_openF
    · exact rfl
    apply st_for
    · exact fun _ _=>rfl
    · rfl
    · apply it_range3 (a:=0) (b:=20) (st:=2) (fun _ _=>rfl) (by kernel_rfl)
      · repeat clear Zg
      · repeat clear Zg
      · repeat clear Zg
      · exact ⟨⟨by decide,by decide⟩,by decide,by decide⟩
      · decide
      · decide
    · exact e3
  repeat clear Zg
  · exact c_isb
end
section
variable {g:Gx} {n:Nat} {H B Q E G:AHeap} {i oi:Nat} {l:Loc} {o0 o1 o2 o3 o4:Int} {c:Cx} {H1 H2:AHeap} {e1 e2:Expr} {np pos:Pos}
noncomputable abbrev baK (i:Nat):K:=⟨dBarred.scope,dBarred.name ++ ".<locals>.",[("order",i)],false,dBarred.lam⟩
noncomputable abbrev baE1:Expr:=asgV (sAt dBarred.body 0)
noncomputable def quad (a b c d:Int):AObj:=.tup [.int a,.int b,.int c,.int d]
theorem it_r2 {a b:Int} {r:Nat} (hs:Plain [e1,e2]) (hk:globQ c.k "range" = true) (h1:Ev c l H e1 (.int a) H1) (h2:Ev c l H1 e2 (.int b) H2) (hb:lim3 a b) (e:rangeN a b 1=r):It c l H (.Call (.Name "range" np) [e1,e2] [] pos) (.range a 1 r) H2:=e ▸ it_range2 hs hk h1 h2 hb
theorem ev_openT {c:Cx} {l:Loc} {H H1:AHeap} {e:Expr} {es:List Expr} {k:Nat} {pos:Pos} {v:AV} (h:e = .Tuple es k pos) (hx:Ev c l H (.Tuple es k pos) v H1):Ev c l H e v H1:=h ▸ hx
theorem ge_asH {c:Cx} {l l1:Loc} {H H1 H2:AHeap} {elt:Expr} {gs:List Comprehension} {it:AIter} {n:Nat} (h:Ge c l H elt gs it n l1 H1) (e:H1=H2):Ge c l H elt gs it n l1 H2:=e ▸ h
theorem ba_fours (b1:B[i]? = some (.cell (some (.ob oi)))) (hl:B[oi]? = some (.list [.int o0,.int o1,.int o2,.int o3,.int o4])) :
    Lc ⟨g,n,baK i⟩ l B (compElt baE1) (compGs baE1) (compS baE1) B.length (B++[.list [.ob (B.length+1),.ob (B.length+2),.ob (B.length+3),.ob (B.length+4),.ob (B.length+5)],quad o0 o1 o2 o3,quad o0 o1 o2 o4,quad o0 o1 o3 o4,quad o0 o2 o3 o4,quad o1 o2 o3 o4]):=by
  apply lc_mk (H1:=B) (it:=.range 0 1 2)
  · exact rfl
  · exact ⟨by kernel_rfl,by kernel_rfl,by kernel_rfl⟩
  · rfl
  · exact fun _ _=>rfl
  · rfl
  · exact rfl
  · apply it_range1 (b:=2) (fun _ _=>rfl) (by kernel_rfl)
    · repeat clear Zg
    · exact ⟨by decide,by decide⟩
  · rfl
  · rfl
  · apply ge_asH
    · apply ge_open
      · exact rfl
      repeat clear Zg
      · apply it_r2 (r:=2) (fun _ _=>rfl) (by kernel_rfl)
        · repeat clear Zg
        · repeat clear Zg
        · exact ⟨by decide,by decide⟩
        · rfl
      repeat clear Zg
      · apply it_r2 (r:=2) (fun _ _=>rfl) (by kernel_rfl)
        · repeat clear Zg
        · repeat clear Zg
        · exact ⟨by decide,by decide⟩
        · rfl
      repeat clear Zg
      · apply it_r2 (r:=2) (fun _ _=>rfl) (by kernel_rfl)
        · repeat clear Zg
        · repeat clear Zg
        · exact ⟨by decide,by decide⟩
        · rfl
      repeat clear Zg
      · apply ev_openT
        · exact rfl
        repeat clear Zg
      repeat clear Zg
      · apply ev_openT
        · exact rfl
        repeat clear Zg
      repeat clear Zg
      · apply it_r2 (r:=1) (fun _ _=>rfl) (by kernel_rfl)
        · repeat clear Zg
        · repeat clear Zg
        · exact ⟨by decide,by decide⟩
        · rfl
      repeat clear Zg
      · apply ev_openT
        · exact rfl
        repeat clear Zg
      repeat clear Zg
      · apply it_r2 (r:=1) (fun _ _=>rfl) (by kernel_rfl)
        · repeat clear Zg
        · repeat clear Zg
        · exact ⟨by decide,by decide⟩
        · rfl
      repeat clear Zg
      · apply it_r2 (r:=1) (fun _ _=>rfl) (by kernel_rfl)
        · repeat clear Zg
        · repeat clear Zg
        · exact ⟨by decide,by decide⟩
        · rfl
      repeat clear Zg
      · apply ev_openT
        · exact rfl
        repeat clear Zg
      repeat clear Zg
      · apply it_r2 (r:=1) (fun _ _=>rfl) (by kernel_rfl)
        · repeat clear Zg
        · repeat clear Zg
        · exact ⟨by decide,by decide⟩
        · rfl
      repeat clear Zg
      · apply it_r2 (r:=1) (fun _ _=>rfl) (by kernel_rfl)
        · repeat clear Zg
        · repeat clear Zg
        · exact ⟨by decide,by decide⟩
        · rfl
      repeat clear Zg
      · apply it_r2 (r:=1) (fun _ _=>rfl) (by kernel_rfl)
        · repeat clear Zg
        · repeat clear Zg
        · exact ⟨by decide,by decide⟩
        · rfl
      repeat clear Zg
      · apply ev_openT
        · exact rfl
        repeat clear Zg
      repeat clear Zg
    · exact rfl
end
noncomputable def barP (a b c d:Int):Bool:=(decide (c < a) && decide (a < d) && decide (d < b)) || (decide (b < d) && decide (d < a) && decide (a < c))
noncomputable def barredF:List Int→Bool
  | [o0,o1,o2,o3,o4]=>barP o0 o1 o2 o3 || (barP o0 o1 o2 o4 || (barP o0 o1 o3 o4 || (barP o0 o2 o3 o4 || barP o1 o2 o3 o4)))
  | _ => false
noncomputable def cmpL (e:Expr):Expr:=match e with
  | .Compare l _ _ _=>l
  | _ => default
section
variable {g:Gx} {n:Nat} {H B Q E G:AHeap} {i oi fi t k:Nat} {l l1 l':Loc} {o0 o1 o2 o3 o4 x0 x1 x2 x3 a b d:Int} {c:Cx} {H':AHeap} {e0 e1 e2 e3 e elt tg:Expr} {pos:Pos} {b1 b2:Bool} {it it':AIter} {ifs:List Expr} {az:Int} {xs:List Int}
theorem ts_chain3 (hm:Marks [.Lt,.Lt,.Lt] [e1,e2,e3]) (h0:Ev c l H e0 (.int x0) H) (h1:Ev c l H e1 (.int x1) H) (h2:Ev c l H e2 (.int x2) H) (h3:Ev c l H e3 (.int x3) H) :
    Ts c l H (.Compare e0 [.Lt,.Lt,.Lt] [e1,e2,e3] pos) (decide (x0 < x1) && decide (x1 < x2) && decide (x2 < x3)) H:=by
  have k1:Cmp c.g .Lt (.int x0) (.int x1) H (decide (x0 < x1)):=c_lt
  have k2:Cmp c.g .Lt (.int x1) (.int x2) H (decide (x1 < x2)):=c_lt
  have k3:Cmp c.g .Lt (.int x2) (.int x3) H (decide (x2 < x3)):=c_lt
  refine ts_cmp hm h0 ?_
  cases h:decide (x0 < x1) with
  | false=>exact ch_stop h1 (cmp_as k1 h)
  | true =>
    refine ch_cons h1 (cmp_as k1 h) ?_
    cases h':decide (x1 < x2) with
    | false=>exact ch_stop h2 (cmp_as k2 h')
    | true=>exact ch_cons h2 (cmp_as k2 h') (ch_one h3 k3)
theorem al_or2 (h1:Ts c l H e1 b1 H) (h2:Ts c l H e2 b2 H):Al c l H .Or [e1,e2] (b1 || b2) H:=by
  cases b1 with
  | true=>exact al_stop rfl h1
  | false =>
    refine al_go (q:=false) rfl h1 ?_
    cases b2 with
    | true=>exact al_stop rfl h2
    | false=>exact al_go (q:=false) rfl h2 al_nil
noncomputable abbrev oneIf (b:Bool):List Int:=if b=true then [1] else []
theorem ge_if (ha:(az != 0)=false) (h:Turn c l (B++[.list (xs.map .int)]) tg it l1 (B++[.list (xs.map .int)]) it') (hf:Fs c l1 (B++[.list (xs.map .int)]) ifs b1 (B++[.list (xs.map .int)])) (hv:Ev c l1 (B++[.list (xs.map .int)]) elt (.int 1) (B++[.list (xs.map .int)])) (hl:xs.length≤100)
    (hr:Ge c l1 (B++[.list ((xs++oneIf b1).map .int)]) elt [⟨tg,e,ifs,az⟩] it' B.length l' H'):Ge c l (B++[.list (xs.map .int)]) elt [⟨tg,e,ifs,az⟩] it B.length l' H':=by
  cases b1 with
  | false =>
    rw [show xs++oneIf false=xs from List.append_nil _] at hr
    exact ge_skipE ha h hf hr
  | true =>
    rw [show xs++oneIf true=xs++[1] from rfl,List.map_append] at hr
    exact ge_putE ha h hf hv rfl (by rw [List.length_map];exact le1000 hl) hr
noncomputable abbrev baE2:Expr:=cmpL (retE (sAt dBarred.body 1))
noncomputable abbrev baC (g:Gx) (n i:Nat):Cx:=⟨g,n,kC (baK i) (compS baE2) []⟩
theorem ba_turn {ts:List AV} (ht:B[fi]? = some (.list ts)) (hk:ts[k]? = some (.ob t)) (hq:B[t]? = some (quad o0 o1 o2 o3)) (hl:xs.length≤100)
    (hr:Ge (baC g n i) [] (B++[.list ((xs++oneIf (barP o0 o1 o2 o3)).map .int)]) (compElt baE2) (compGs baE2) (.list fi (k+1)) B.length l' H'):Ge (baC g n i) [] (B++[.list (xs.map .int)]) (compElt baE2) (compGs baE2) (.list fi k) B.length l' H':=by
  have hq':(B++[.list (xs.map .int)])[t]? = some (.tup [.int o0,.int o1,.int o2,.int o3]):=getOld hq
  apply ge_open
  · exact rfl
  apply ge_if (b1:=barP o0 o1 o2 o3)
  · rfl
  · apply turn_list (getOld ht) hk
    · exact go_tup rfl
    · repeat clear Zg
  · apply fs_one
    apply ts_row
    apply al_or2
    · apply ts_chain3
      · exact fun _=>rfl
      · repeat clear Zg
      · repeat clear Zg
      · repeat clear Zg
      · repeat clear Zg
    · apply ts_chain3
      · exact fun _=>rfl
      · repeat clear Zg
      · repeat clear Zg
      · repeat clear Zg
      · repeat clear Zg
  · exact ev_int
  · exact hl
  · exact ge_sub_loc (gr:=[]) sub_nil hr
theorem ba_or:∀ b0 b1 b2 b3 b4:Bool,(!(([]++oneIf b0++oneIf b1++oneIf b2++oneIf b3++oneIf b4) == []))=(b0 || (b1 || (b2 || (b3 || b4)))):=by decide
theorem oneIf_len {m:Nat} {b:Bool} (h:xs.length≤m):(xs++oneIf b).length≤m+1:=by
  rw [List.length_append]
  cases b with
  | true=>exact Nat.add_le_add_right h 1
  | false=>exact Nat.le_succ_of_le h
theorem ba_some {t0 t1 t2 t3 t4:Nat} {a0 a1 a2 a3 b0 b1 b2 b3 c0 c1 c2 c3 d0 d1 d2 d3 e0 e1 e2 e3:Int} (ht:B[fi]? = some (.list [.ob t0,.ob t1,.ob t2,.ob t3,.ob t4])) (h0:B[t0]? = some (quad a0 a1 a2 a3)) (h1:B[t1]? = some (quad b0 b1 b2 b3)) (h2:B[t2]? = some (quad c0 c1 c2 c3)) (h3:B[t3]? = some (quad d0 d1 d2 d3)) (h4:B[t4]? = some (quad e0 e1 e2 e3)) (l1:l.lookup ("fours" : Str)=some (.ob fi)) :
    Lc ⟨g,n,baK i⟩ l B (compElt baE2) (compGs baE2) (compS baE2) B.length (B++[.list (([]++oneIf (barP a0 a1 a2 a3)++oneIf (barP b0 b1 b2 b3)++oneIf (barP c0 c1 c2 c3)++oneIf (barP d0 d1 d2 d3)++oneIf (barP e0 e1 e2 e3)).map .int)]):=by
  apply lc_mk (H1:=B) (it:=.list fi 0)
  · exact rfl
  · exact ⟨by kernel_rfl,by kernel_rfl,by kernel_rfl⟩
  · rfl
  · exact fun _ _=>rfl
  · rfl
  · exact rfl
  · apply it_list
    · apply ev_openN
      · exact rfl
      · exact ev_loc (by kernel_rfl) l1
    · exact ht
  · rfl
  · rfl
  · have z0:([]:List Int).length≤0:=Nat.le_refl _
    have z1:=oneIf_len (b:=barP a0 a1 a2 a3) z0
    have z2:=oneIf_len (b:=barP b0 b1 b2 b3) z1
    have z3:=oneIf_len (b:=barP c0 c1 c2 c3) z2
    have z4:=oneIf_len (b:=barP d0 d1 d2 d3) z3
    apply ba_turn ht rfl h0 (Nat.le_trans z0 (by decide))
    apply ba_turn ht rfl h1 (Nat.le_trans z1 (by decide))
    apply ba_turn ht rfl h2 (Nat.le_trans z2 (by decide))
    apply ba_turn ht rfl h3 (Nat.le_trans z3 (by decide))
    apply ba_turn ht rfl h4 (Nat.le_trans z4 (by decide))
    apply ge_open
    · exact rfl
    exact ge_endE rfl (end_list (getOld ht) (Nat.le_of_ble_eq_true rfl))
theorem ap4 {A B C D:AHeap}:H++A++B++C++D=H++(A++(B++(C++D))):=by rw [app3,app3,app3]
theorem c_barred {os:List Int} (h5:os.length=5) (h2:H[oi]? = some (.list (os.map .int))):∃ G,Call g (n+1) false H (.top 161) [.ob oi] [] (.bool (barredF os)) (H++G):=by
  obtain ⟨o0,o1,o2,o3,o4,rfl⟩:=five h5
  have e1:=ba_fours (g:=g) (n:=n) (i:=H.length) (l:=[]) (B:=H++[.cell (some (.ob oi))]) get_last (getOld h2)
  have e2:=ba_some (g:=g) (n:=n) (i:=H.length) (l:=[("fours",.ob (H++[AObj.cell (some (AV.ob oi))]).length)]) (get0 (H:=H++[AObj.cell (some (AV.ob oi))]) (E:=[AObj.list [AV.ob ((H++[AObj.cell (some (AV.ob oi))]).length+1),AV.ob ((H++[AObj.cell (some (AV.ob oi))]).length+2),AV.ob ((H++[AObj.cell (some (AV.ob oi))]).length+3),AV.ob ((H++[AObj.cell (some (AV.ob oi))]).length+4),AV.ob ((H++[AObj.cell (some (AV.ob oi))]).length+5)],quad o0 o1 o2 o3,quad o0 o1 o2 o4,quad o0 o1 o3 o4,quad o0 o2 o3 o4,quad o1 o2 o3 o4]) rfl)
    (getK rfl) (getK rfl) (getK rfl) (getK rfl) (getK rfl) rfl
  apply Exists.intro
  apply call_cast
  · apply callC (d:=dBarred) (k:=baK H.length) (E:=[.cell none]) (in_tab 20 rfl) (by kernel_rfl) (by kernel_rfl) (bd_1 (n1:="order") (in_tab 20 rfl) (by kernel_rfl) (by decide +kernel) (fun _ _ _ _ _ _=>by kernel_rfl))
    · apply bs_cons
      · exact sb_cell0 (by kernel_rfl) rfl rfl
      exact bs_nil
    apply ex_as
    · exact (show dBarred.body=[sAt dBarred.body 0,sAt dBarred.body 1] by kernel_rfl)
    apply ex_cons
    · apply st_openA
      · exact rfl
      apply st_assignC
      · kernel_rfl
      · exact fun _ _=>rfl
      · exact e1
      · apply as_name
        exact sn_here (by kernel_rfl)
    apply ex_ret
    apply st_openR
    · exact rfl
    apply st_ret
    apply ev_cmp
    · exact fun _=>rfl
    · exact ev_comp e2
    · apply ev_list
      · exact fun _ _=>rfl
      · exact es_nil
      · decide
    · exact c_ne_list embInt (ys:=[]) (getOld get_last) get_last (fun _ _=>trivial) (fun _ _=>trivial)
  · exact congrArg AV.bool (ba_or ..)
  · exact ap4
end
noncomputable def ids5 (p:Nat):List AV:=[.ob (p+1),.ob (p+2),.ob (p+3),.ob (p+4),.ob (p+5)]
noncomputable abbrev mkI (m:List Int):AObj:=.list (m.map .int)
noncomputable def hC (P:AHeap) (ms:List (List Int)) (G:AHeap):AHeap:=P++(.list (ids5 P.length) :: (ms.map mkI++G))
section
variable {P:AHeap} {ms:List (List Int)} {G E:AHeap} {k j i:Nat} {m:List Int} {o:AObj}
theorem hC_old (h:P[j]? = some o):(hC P ms G)[j]? = some o:=getOld h
theorem hC_made:(hC P ms G)[P.length]? = some (.list (ids5 P.length)):=get_mid
theorem hC_get (h:ms[k]? = some m):(hC P ms G)[P.length+(k+1)]? = some (.list (m.map .int)):=getK (getOld_ ((List.getElem?_map ..).trans (congrArg _ h)))
theorem hC_set (h:k < ms.length):(hC P ms G).set (P.length+(k+1)) (.list (m.map .int))=hC P (ms.set k m) G:=by
  unfold hC
  rw [setk,List.set_cons_succ,List.set_append_left _ _ (by rw [List.length_map];exact h),List.map_set]
theorem hC_app:hC P ms G++E=hC P ms (G++E):=by
  unfold hC
  rw [app3,List.cons_append,List.append_assoc]
theorem hC_len (h:ms.length=5):(hC P ms G).length=P.length+(G.length+6):=by
  unfold hC
  rw [lenE,List.length_cons,List.length_append,List.length_map,h,Nat.add_comm 5]
theorem hC_new (h:ms.length=5):(hC P ms (G++E))[P.length+(G.length+6)+i]? = E[i]?:=by
  rw [←hC_app,←hC_len (P:=P) (G:=G) h,List.getElem?_append_right (Nat.le_add_right _ _),Nat.add_sub_cancel_left]
theorem hC_setN (h:ms.length=5):(hC P ms (G++E)).set (P.length+(G.length+6)+i) o=hC P ms (G++E.set i o):=by
  rw [←hC_app,←hC_len (P:=P) (G:=G) h,setk,hC_app]
end
noncomputable def setP (ms:List (List Int)) (p col:Nat) (v:Int):List (List Int):=ms.set p ((ms[p]?.getD []).set col v)
noncomputable def fillF (col:Nat) (v:Int):Nat→Nat→List (List Int)→List (List Int)
  | 0,_,ms=>ms
  | n + 1,p,ms=>fillF col v n (p+1) (setP ms p col v)
structure Five (ms:List (List Int)):Prop where
  len:ms.length=5
  each:∀ m∈ms,m.length=5
theorem Five.set {ms:List (List Int)} (h:Five ms) (p col:Nat) (v:Int) (hp:p < 5):Five (setP ms p col v):=by
  refine ⟨List.length_set.trans h.len,fun m hm=>?_⟩
  rcases List.mem_or_eq_of_mem_set hm with q | q
  · exact h.each m q
  · subst q
    rw [List.length_set,List.getElem?_eq_getElem (h.len.symm ▸ hp)]
    exact h.each _ (List.getElem_mem _)
theorem Five.fill {col:Nat} {v:Int}:∀ (n p:Nat) {ms:List (List Int)},Five ms→p+n≤5→Five (fillF col v n p ms)
  | 0,_,_,h,_=>h
  | n + 1,p,_,h,l=>Five.fill n (p+1) (h.set p col v (Nat.lt_of_lt_of_le (Nat.lt_add_of_pos_right (Nat.succ_pos n)) l)) (Nat.le_trans (Nat.le_of_eq (Nat.succ_add_eq_add_succ p n)) l)
noncomputable def valF (power:Nat) (ends:List Nat) (part:Nat):Int:=if power % 2=0 then part else (ends.length:Int) - 2 - part
noncomputable abbrev cuK (c:Nat):K:=⟨dCut.scope,dCut.name ++ ".<locals>.",[("rise",c+1),("power",c)],false,dCut.lam⟩
noncomputable abbrev cuL (oi first behind made ei:Nat):Loc:=[("order",.ob oi),("first",.int first),("behind",.int behind),("made",.ob made),("ends",.ob ei)]
noncomputable abbrev cuP (oi first behind made ei part:Nat):Loc:=[("order",.ob oi),("first",.int first),("behind",.int behind),("made",.ob made),("ends",.ob ei),("part",.int part)]
noncomputable abbrev cuF2:Stmt:=sAt dCut.body 2
noncomputable abbrev cuF0:Stmt:=sAt (whB cuF2) 0
section
variable {g:Gx} {n:Nat} {P G B:AHeap} {c oi first behind ei made power part:Nat} {ends:List Nat} {l:Loc}
theorem ev_openI {c:Cx} {l:Loc} {H H1:AHeap} {e t e1 e2:Expr} {pos:Pos} {v:AV} (h:e = .IfExp t e1 e2 pos) (hx:Ev c l H (.IfExp t e1 e2 pos) v H1):Ev c l H e v H1:=h ▸ hx
theorem cu_val (h1:B[c]? = some (.cell (some (.int power)))) (h2:B[ei]? = some (.list (ends.map fun k:Nat=>.int k))) (hl:ends.length < 20) (l1:l.lookup ("part" : Str)=some (.int part)) (l2:l.lookup ("ends" : Str)=some (.ob ei)) :
    Ev ⟨g,n,cuK c⟩ l B (asgV (sAt (whB cuF0) 0)) (.int (valF power ends part)) B:=by
  have hl':(ends.map fun k:Nat=>AV.int k).length < 1000:=by rw [List.length_map];exact Nat.lt_trans hl (by decide)
  unfold valF
  by_cases h:power % 2=0
  · rw [if_pos h]
    have w:(((power % 2:Nat):Int) == 0)=true:=by rw [h];rfl
    apply ev_openI
    · exact rfl
    repeat clear Zg
  · rw [if_neg h]
    have w:(((power % 2:Nat):Int) == 0)=false:=beq_eq_false_iff_ne.mpr fun e=>h (Int.ofNat_inj.mp e)
    apply ev_as
    · apply ev_openI
      · exact rfl
      repeat clear Zg
    · rw [List.length_map]
    · rfl
end
section
variable {g:Gx} {n:Nat} {P G B:AHeap} {c oi first behind ei made power part p:Nat} {ends:List Nat} {l:Loc} {ms:List (List Int)} {mm:List Int} {v:Int}
theorem ids5_get (h:p < 5):(ids5 made)[p]? = some (.ob (made+(p+1))):=match p,h with
  | 0,_=>rfl
  | 1,_=>rfl
  | 2,_=>rfl
  | 3,_=>rfl
  | 4,_=>rfl
theorem cu_body (hpw:(hC P ms G)[c]? = some (.cell (some (.int power)))) (hen:(hC P ms G)[ei]? = some (.list (ends.map fun k:Nat=>.int k))) (hel:ends.length < 20) (p1:1≤power) (p5:power≤5) (h5:Five ms) (hp:p < 5) :
    Ex ⟨g,n,cuK c⟩ (upd "place" (.int p) (cuP oi first behind P.length ei part)) (hC P ms G) (whB cuF0) ⟨.next,upd "place" (.int p) (cuP oi first behind P.length ei part),hC P (setP ms p (power - 1) (valF power ends part)) G⟩:=by
  have hp':p < ms.length:=h5.len.symm ▸ hp
  have hm:=List.getElem?_eq_getElem hp'
  have lm:ms[p].length=5:=h5.each _ (List.getElem_mem hp')
  have e:(hC P ms G).set (P.length+(p+1)) (.list ((ms[p].map AV.int).set (power - 1) (.int (valF power ends part))))=hC P (setP ms p (power - 1) (valF power ends part)) G:=by
    rw [←List.map_set,hC_set hp',setP,hm];rfl
  have hm':(hC P ms G)[P.length+(p+1)]? = some (.list (ms[p].map .int)):=hC_get hm
  have hl:(ms[p].map AV.int).length=5:=(List.length_map _).trans lm
  rw [←e]
  apply ex_as
  · exact (show whB cuF0=[sAt (whB cuF0) 0] by kernel_rfl)
  apply ex_cons
  · apply st_openA
    · exact rfl
    apply st_assign
    · kernel_rfl
    · kernel_rfl
    · exact fun _ _=>rfl
    · exact cu_val hpw hen hel rfl rfl
    · apply as_sub
      · apply ev_idx (fun _ _=>rfl)
        · repeat clear Zg
        · repeat clear Zg
        · exact i_nat hC_made (Nat.le_of_ble_eq_true rfl) (ids5_get hp)
      · apply ev_bin
        · clear Zg
        · exact ev_int
        · exact b_subN (b:=1) p1
      · exact s_nat hm' (by rw [hl];decide) (hl.symm ▸ Nat.lt_of_lt_of_le (Nat.sub_lt p1 (by decide)) p5)
  · exact ex_nil
theorem cu_fill (hpw:∀ ms:List (List Int),ms.length=5→(hC P ms G)[c]? = some (.cell (some (.int power)))) (hen:∀ ms:List (List Int),ms.length=5→(hC P ms G)[ei]? = some (.list (ends.map fun k:Nat=>.int k))) (hel:ends.length < 20) (p1:1≤power) (p5:power≤5):∀ (r p:Nat) (ms:List (List Int)),Five ms→p+r≤5 →
    Fr ⟨g,n,cuK c⟩ (cuP oi first behind P.length ei part) (hC P ms G) (forT cuF0) (.range (p:Nat) 1 r) (whB cuF0) (forO cuF0) ⟨.next,cuP oi first behind P.length ei part,hC P (fillF (power - 1) (valF power ends part) r p ms) G⟩:=by
  intro r
  induction r with
  | zero=>exact fun p ms h1 h2=>fr_end end_range ex_nil
  | succ r ih =>
    intro p ms h1 h2
    have hp:p < 5:=Nat.lt_of_lt_of_le (Nat.lt_add_of_pos_right (Nat.succ_pos r)) h2
    apply fr_step
    · apply turn_range go_name
      repeat clear Zg
    · exact cu_body (hpw ms h1.len) (hen ms h1.len) hel p1 p5 h1 hp
    · exact fr_sub (sub_app (cuP oi first behind P.length ei part) [("place",.int p)]) (ih (p+1) _ (h1.set _ _ _ hp) (Nat.le_trans (Nat.le_of_eq (Nat.succ_add_eq_add_succ p r)) h2))
theorem rangeN_sub {a b f:Nat} (h:a≤b):rangeN ((f+a:Nat):Int) ((f+b:Nat):Int) 1=b - a:=by
  unfold rangeN
  by_cases e:a < b
  · rw [if_pos (by omega)];omega
  · rw [if_neg (by omega)];omega
noncomputable def partsF (rec:Nat→Nat→Nat→List (List Int)→Option (List (List Int))) (first power:Nat) (ends:List Nat):Nat→Nat→List (List Int)→Option (List (List Int))
  | 0,_,ms=>some ms
  | r + 1, part,ms=>match ends[part]?,ends[part+1]? with
    | some a,some b=>if a≤b∧first+b≤5 then
        (if 1 < b - a then match rec (first+a) (first+b) (power+1) (fillF (power - 1) (valF power ends part) (b - a) (first+a) ms) with
          | some ms2=>partsF rec first power ends r (part+1) ms2
          | none=>none
        else partsF rec first power ends r (part+1) (fillF (power - 1) (valF power ends part) (b - a) (first+a) ms))
      else none
    | _,_=>none
noncomputable def CutOk (g:Gx) (n:Nat) (P:AHeap) (oi:Nat) (rec:Nat→Nat→Nat→List (List Int)→Option (List (List Int))):Prop:=
  ∀ (f b pw:Nat) (ms ms':List (List Int)) (G:AHeap),Five ms→rec f b pw ms=some ms'→Five ms'∧∃ G',Call g n false (hC P ms G) (.top 166) [.ob oi,.int f,.int b,.int pw,.ob P.length] [] .none (hC P ms' (G++G'))
theorem lim_nat {a b:Nat} (ha:a≤5) (hb:b≤5):lim3 (a:Nat) (b:Nat):=⟨⟨by omega,by omega⟩,by omega,by omega⟩
theorem cu_s0 {a b:Nat} (hpw:∀ ms:List (List Int),ms.length=5→(hC P ms G)[c]? = some (.cell (some (.int power)))) (hen:∀ ms:List (List Int),ms.length=5→(hC P ms G)[ei]? = some (.list (ends.map fun k:Nat=>.int k))) (hel:ends.length < 20) (p1:1≤power) (p5:power≤5) (h5:Five ms) (ha:ends[part]? = some a) (hb:ends[part+1]? = some b) (hab:a≤b) (hfb:first+b≤5) :
    St ⟨g,n,cuK c⟩ (cuP oi first behind P.length ei part) (hC P ms G) cuF0 ⟨.next,cuP oi first behind P.length ei part,hC P (fillF (power - 1) (valF power ends part) (b - a) (first+a) ms) G⟩:=by
  have e0:=hen ms h5.len
  have e1:(ends.map fun k:Nat=>AV.int k)[part]? = some (.int a):=(List.getElem?_map ..).trans (congrArg _ ha)
  have e2:(ends.map fun k:Nat=>AV.int k)[part+1]? = some (.int b):=(List.getElem?_map ..).trans (congrArg _ hb)
  have hl:(ends.map fun k:Nat=>AV.int k).length≤1000:=by rw [List.length_map];exact Nat.le_trans (Nat.le_of_lt hel) (by decide)
  apply st_openF
  · exact rfl
  apply st_for
  · exact fun _ _=>rfl
  · rfl
  · apply it_r2 (fun _ _=>rfl) (by kernel_rfl)
    · apply ev_bin
      · clear Zg
      · repeat clear Zg
      · exact b_addN
    · apply ev_bin
      · clear Zg
      · repeat clear Zg
      · exact b_addN
    · exact lim_nat (Nat.le_trans (Nat.add_le_add_left hab _) hfb) hfb
    · exact rangeN_sub hab
  · exact cu_fill hpw hen hel p1 p5 (b - a) (first+a) ms h5 (by omega)
theorem cu_s1 {a b:Nat} {ms2:List (List Int)} {G2:AHeap} (hpw:(hC P ms G)[c]? = some (.cell (some (.int power)))) (hen:(hC P ms G)[ei]? = some (.list (ends.map fun k:Nat=>.int k))) (hel:ends.length < 20) (ha:ends[part]? = some a) (hb:ends[part+1]? = some b) (hab:a≤b)
    (hr:1 < b - a→Call g n false (hC P ms G) (.top 166) [.ob oi,.int (first+a:Nat),.int (first+b:Nat),.int (power+1:Nat),.ob P.length] [] .none (hC P ms2 G2)) (hn:¬ 1 < b - a→ms2=ms∧G2=G) :
    St ⟨g,n,cuK c⟩ (cuP oi first behind P.length ei part) (hC P ms G) (sAt (whB cuF2) 1) ⟨.next,cuP oi first behind P.length ei part,hC P ms2 G2⟩:=by
  have e1:(ends.map fun k:Nat=>AV.int k)[part]? = some (.int a):=(List.getElem?_map ..).trans (congrArg _ ha)
  have e2:(ends.map fun k:Nat=>AV.int k)[part+1]? = some (.int b):=(List.getElem?_map ..).trans (congrArg _ hb)
  have hl:(ends.map fun k:Nat=>AV.int k).length≤1000:=by rw [List.length_map];exact Nat.le_trans (Nat.le_of_lt hel) (by decide)
  by_cases h:1 < b - a
  · have w : decide ((1:Int) < (b:Int) - (a:Int))=true:=decide_eq_true (by omega)
    have hr:=hr h
    apply st_openI
    · exact rfl
    apply st_t
    · repeat clear Zg
      · exact c_gt
    · exact w
    apply ex_cons
    · apply st_expr
      · exact fun _ _=>rfl
      apply ev_call (fun _ _=>rfl) (fun _ _=>⟨rfl,rfl,rfl⟩)
      · repeat clear Zg
      · apply es_cons
        · repeat clear Zg
        apply es_cons
        · apply ev_bin
          · clear Zg
          · repeat clear Zg
          · exact b_addN
        apply es_cons
        · apply ev_bin
          · clear Zg
          · repeat clear Zg
          · exact b_addN
        repeat clear Zg
      · repeat clear Zg
      · repeat clear Zg
      · exact hr
    · exact ex_nil
  · have w:decide ((1:Int) < (b:Int) - (a:Int))=false:=decide_eq_false (by omega)
    obtain ⟨rfl,rfl⟩:=hn h
    apply st_openI
    · exact rfl
    apply st_f
    · repeat clear Zg
      · exact c_gt
    · exact w
    exact ex_nil
end
section
variable {g:Gx} {n:Nat} {P G B:AHeap} {c oi first behind ei made power part p r:Nat} {ends:List Nat} {l:Loc} {ms ms':List (List Int)} {rec:Nat→Nat→Nat→List (List Int)→Option (List (List Int))}
inductive PartsI (rec:Nat→Nat→Nat→List (List Int)→Option (List (List Int))) (first power:Nat) (ends:List Nat) (r part:Nat) (ms ms':List (List Int)):Prop
  | mk (a b:Nat) (ms2:List (List Int)):ends[part]? = some a→ends[part+1]? = some b→a≤b→first+b≤5→(1 < b - a→rec (first+a) (first+b) (power+1) (fillF (power - 1) (valF power ends part) (b - a) (first+a) ms)=some ms2) →
    (¬ 1 < b - a→ms2=fillF (power - 1) (valF power ends part) (b - a) (first+a) ms)→partsF rec first power ends r (part+1) ms2=some ms'→PartsI rec first power ends r part ms ms'
theorem parts_inv (h:partsF rec first power ends (r+1) part ms=some ms'):PartsI rec first power ends r part ms ms':=by
  unfold partsF at h
  cases ha:ends[part]? with
  | none=>rw [ha] at h;cases h
  | some a =>
    cases hb:ends[part+1]? with
    | none=>rw [ha,hb] at h;cases h
    | some b =>
      rw [ha,hb] at h
      replace h:(if a≤b∧first+b≤5 then _ else none)=some ms':=h
      by_cases h1:a≤b∧first+b≤5
      · rw [if_pos h1] at h
        by_cases h2:1 < b - a
        · rw [if_pos h2] at h
          cases hr:rec (first+a) (first+b) (power+1) (fillF (power - 1) (valF power ends part) (b - a) (first+a) ms) with
          | none=>rw [hr] at h;cases h
          | some ms2=>rw [hr] at h;exact ⟨a,b,ms2,ha,hb,h1.1,h1.2,fun _=>hr,fun q=>absurd h2 q,h⟩
        · rw [if_neg h2] at h
          exact ⟨a,b,_,ha,hb,h1.1,h1.2,fun q=>absurd q h2,fun _=>rfl,h⟩
      · rw [if_neg h1] at h;cases h
theorem bodyC2:whB cuF2=[cuF0,sAt (whB cuF2) 1]:=by kernel_rfl
theorem cu_parts (hrec:CutOk g n P oi rec) (hel:ends.length < 20) (p1:1≤power) (p5:power≤5):∀ (r part:Nat) (ms:List (List Int)) (G:AHeap),(∀ ms:List (List Int),ms.length=5→(hC P ms G)[c]? = some (.cell (some (.int power))))→(∀ ms:List (List Int),ms.length=5→(hC P ms G)[ei]? = some (.list (ends.map fun k:Nat=>.int k)))→Five ms→partsF rec first power ends r part ms=some ms' →
    Five ms'∧∃ G',Fr ⟨g,n,cuK c⟩ (cuL oi first behind P.length ei) (hC P ms G) (forT cuF2) (.range (part:Nat) 1 r) (whB cuF2) (forO cuF2) ⟨.next,cuL oi first behind P.length ei,hC P ms' (G++G')⟩:=by
  intro r
  induction r with
  | zero =>
    intro part ms G hpw hen h5 hF
    obtain rfl:ms=ms':=Option.some.inj hF
    exact ⟨h5,[],fr_end end_range (by rw [List.append_nil];exact ex_nil)⟩
  | succ r ih =>
    intro part ms G hpw hen h5 hF
    obtain ⟨a,b,ms2,ha,hb,hab,hfb,hr,hn,hF'⟩:=parts_inv hF
    have s0:=cu_s0 (g:=g) (n:=n) (oi:=oi) (first:=first) (behind:=behind) hpw hen hel p1 p5 h5 ha hb hab hfb
    have h51:=h5.fill (col:=power - 1) (v:=valF power ends part) (b - a) (first+a) (by omega)
    have s1:Five ms2∧∃ G1,St ⟨g,n,cuK c⟩ (cuP oi first behind P.length ei part) (hC P (fillF (power - 1) (valF power ends part) (b - a) (first+a) ms) G) (sAt (whB cuF2) 1) ⟨.next,cuP oi first behind P.length ei part,hC P ms2 (G++G1)⟩:=by
      by_cases h:1 < b - a
      · obtain ⟨h52,G1,hc⟩:=hrec _ _ _ _ _ G h51 (hr h)
        exact ⟨h52,G1,cu_s1 (hpw _ h51.len) (hen _ h51.len) hel ha hb hab (fun _=>hc) fun q=>absurd h q⟩
      · obtain rfl:=hn h
        exact ⟨h51,[],by rw [List.append_nil];exact cu_s1 (hpw _ h51.len) (hen _ h51.len) hel ha hb hab (fun q=>absurd q h) fun _=>⟨rfl,rfl⟩⟩
    obtain ⟨h52,G1,s1⟩:=s1
    obtain ⟨h5',G2,w⟩:=ih (part+1) ms2 (G++G1) (fun ms h=>by rw [←hC_app];exact getOld (hpw ms h)) (fun ms h=>by rw [←hC_app];exact getOld (hen ms h)) h52 hF'
    rw [List.append_assoc] at w
    refine ⟨h5',G1++G2,?_⟩
    apply fr_step
    · apply turn_range go_name
      repeat clear Zg
    · exact ex_as bodyC2 (ex_cons s0 (ex_cons s1 ex_nil))
    · exact fr_sub (sub_app (cuL oi first behind P.length ei) [("part",.int part)]) w
end
noncomputable def riseF (power:Nat) (seg:List Int):List Int:=seg.map fun r=>if power % 2=0 then r else -r
noncomputable def maxA:List Int→Int→Int
  | [],m=>m
  | x :: r,m=>maxA r (if m < x then x else m)
noncomputable def minA:List Int→Int→Int
  | [],m=>m
  | x :: r,m=>minA r (if x < m then x else m)
noncomputable def maxL:List Int→Int
  | []=>0
  | x :: r=>maxA r x
noncomputable def minL:List Int→Int
  | []=>0
  | x :: r=>minA r x
theorem maxA_ok:∀ (r:List Int) (m:Int),maxA r m∈m :: r∧∀ q∈m :: r,q≤maxA r m
  | [],m=>⟨.head _,fun q h=>(List.mem_singleton.mp h) ▸ Int.le_refl _⟩
  | x :: r,m=>by
    have ih:=maxA_ok r (if m < x then x else m)
    unfold maxA
    by_cases h:m < x
    · rw [if_pos h] at ih ⊢
      exact ⟨.tail _ ih.1,List.forall_mem_cons.mpr ⟨Int.le_trans (Int.le_of_lt h) (ih.2 x (.head _)),ih.2⟩⟩
    · rw [if_neg h] at ih ⊢
      exact ⟨(List.mem_cons.mp ih.1).elim (fun e=>List.mem_cons.mpr (.inl e)) fun e=>.tail _ (.tail _ e),List.forall_mem_cons.mpr ⟨ih.2 m (.head _),List.forall_mem_cons.mpr ⟨Int.le_trans (Int.not_lt.mp h) (ih.2 m (.head _)),fun q e=>ih.2 q (.tail _ e)⟩⟩⟩
theorem minA_ok:∀ (r:List Int) (m:Int),minA r m∈m :: r∧∀ q∈m :: r,minA r m≤q
  | [],m=>⟨.head _,fun q h=>(List.mem_singleton.mp h) ▸ Int.le_refl _⟩
  | x :: r,m=>by
    have ih:=minA_ok r (if x < m then x else m)
    unfold minA
    by_cases h:x < m
    · rw [if_pos h] at ih ⊢
      exact ⟨.tail _ ih.1,List.forall_mem_cons.mpr ⟨Int.le_trans (ih.2 x (.head _)) (Int.le_of_lt h),ih.2⟩⟩
    · rw [if_neg h] at ih ⊢
      exact ⟨(List.mem_cons.mp ih.1).elim (fun e=>List.mem_cons.mpr (.inl e)) fun e=>.tail _ (.tail _ e),List.forall_mem_cons.mpr ⟨ih.2 m (.head _),List.forall_mem_cons.mpr ⟨Int.le_trans (ih.2 m (.head _)) (Int.not_lt.mp h),fun q e=>ih.2 q (.tail _ e)⟩⟩⟩
theorem maxL_ok:∀ {l:List Int},0 < l.length→maxL l∈l∧∀ q∈l,q≤maxL l
  | x :: r,_=>maxA_ok r x
theorem minL_ok:∀ {l:List Int},0 < l.length→minL l∈l∧∀ q∈l,minL l≤q
  | x :: r,_=>minA_ok r x
noncomputable def cutsF (rise:List Int):List Nat:=(List.range' 1 (rise.length - 1)).filter fun cut=>decide (maxL (rise.take cut) < minL (rise.drop cut))
noncomputable def endsF (rise:List Int):List Nat:=0 :: (cutsF rise++[rise.length])
noncomputable def binR:Expr→Expr
  | .BinOp _ _ r _=>r
  | _ => default
noncomputable abbrev cuE0:Expr:=asgV (sAt dCut.body 0)
noncomputable abbrev cuE1:Expr:=binR (binL (asgV (sAt dCut.body 1)))
section
variable {g:Gx} {n:Nat} {P G B:AHeap} {c oi ri first behind power:Nat} {l:Loc} {os rise:List Int} {x:Option AV}
theorem cu_rise (h1:B[oi]? = some (.list (os.map .int))) (h2:B[c]? = some (.cell (some (.int power)))) (h5:os.length≤20) (l1:l.lookup ("order" : Str)=some (.ob oi)) (l2:l.lookup ("first" : Str)=some (.int first)) (l3:l.lookup ("behind" : Str)=some (.int behind)) :
    Lc ⟨g,n,cuK c⟩ l B (compElt cuE0) (compGs cuE0) (compS cuE0) (B.length+1) (B++[.list (((os.take behind).drop first).map .int)]++[.list ((riseF power ((os.take behind).drop first)).map .int)]):=by
  have lo:(os.map AV.int).length≤1000:=by rw [List.length_map];exact Nat.le_trans h5 (by decide)
  have lseg:((os.take behind).drop first).length≤1000:=Nat.le_trans (List.drop_sublist _ _).length_le (Nat.le_trans (List.take_sublist _ _).length_le (Nat.le_trans h5 (by decide)))
  have e:((((os.take behind).drop first).filter fun _=>true).map fun r=>AV.int (if power % 2=0 then r else -r))=(riseF power ((os.take behind).drop first)).map .int:=by
    rw [List.filter_eq_self.mpr (fun _ _=>rfl),riseF,List.map_map];rfl
  rw [←e,←len1 (H:=B) (X:=.list (((os.take behind).drop first).map .int))]
  apply lc_xi (st:=fun j=>upd "rank" (.int j) []) (hs:=(os.take behind).drop first) (q:=fun _=>true)
  · rfl
  · exact ⟨by kernel_rfl,by kernel_rfl,by kernel_rfl⟩
  · exact fun _ _=>rfl
  · rfl
  · exact rfl
  · apply it_list
    · rw [List.map_drop,List.map_take]
      apply ev_slT
      · exact ev_loc (by kernel_rfl) l1
      · exact ev_loc (by kernel_rfl) l2
      · exact ev_loc (by kernel_rfl) l3
      · exact .inl h1
      · exact lo
    · exact get_last
  · rfl
  · exact Yl.list get_last go_name _ 0 rfl
  · exact lseg
  · intro j _ as
    repeat clear Zg
  · intro j _ as
    exact fs_nil
  · intro j _ _ as
    have g2:=getOld (E:=[.list as]) (getOld (E:=[.list (((os.take behind).drop first).map .int)]) h2)
    apply ev_openI
    · exact rfl
    by_cases h:power % 2=0
    · rw [if_pos h]
      have w:(((power % 2:Nat):Int) == 0)=true:=by rw [h];rfl
      repeat clear Zg
    · rw [if_neg h]
      have w:(((power % 2:Nat):Int) == 0)=false:=beq_eq_false_iff_ne.mpr fun e=>h (Int.ofNat_inj.mp e)
      repeat clear Zg
theorem cu_cuts (h1:B[c+1]? = some (.cell (some (.ob ri)))) (h2:B[ri]? = some (.list (rise.map .int))) (h5:rise.length≤20) (h0:1≤rise.length):∃ Q,
    Lc ⟨g,n,cuK c⟩ l B (compElt cuE1) (compGs cuE1) (compS cuE1) B.length (B++(.list ((cutsF rise).map fun k:Nat=>.int k) :: Q)):=by
  have lr:(rise.map AV.int).length≤1000:=by rw [List.length_map];exact Nat.le_trans h5 (by decide)
  have lr':(rise.map AV.int).length < 1000:=by rw [List.length_map];exact Nat.lt_of_le_of_lt h5 (by decide)
  rw [cutsF,←filter_natP (fun cut=>decide (maxL (rise.take cut) < minL (rise.drop cut)))]
  apply lc_g (st:=fun v=>upd "cut" v [])
  · rfl
  · exact ⟨by kernel_rfl,by kernel_rfl,by kernel_rfl⟩
  · exact fun _ _=>rfl
  · rfl
  · exact rfl
  · apply it_r2 (a:=(1:Nat)) (r:=rise.length - 1) (fun _ _=>rfl) (by kernel_rfl)
    · exact ev_int
    · repeat clear Zg
    · rw [List.length_map];exact ⟨by decide,Int.natCast_nonneg _,Int.ofNat_lt.mpr (Nat.lt_of_le_of_lt h5 (by decide))⟩
    · rw [List.length_map];unfold rangeN;split <;> omega
  · rfl
  · exact Yl.range go_name _ _
  · rw [List.length_map,List.length_range'];exact Nat.le_trans (Nat.sub_le _ _) (Nat.le_trans h5 (by decide))
  · intro v _ X
    repeat clear Zg
  · intro v hv X
    obtain ⟨k,hk,rfl⟩:=List.mem_map.mp hv
    have hk':=List.mem_range'_1.mp hk
    have a1:0 < (rise.take k).length:=by rw [List.length_take];omega
    have a2:0 < (rise.drop k).length:=by rw [List.length_drop];omega
    have g1:=getOld (E:=X) h1
    have g2:=getOld (E:=X) h2
    have m1:=maxL_ok a1
    have m2:=minL_ok a2
    apply Exists.intro
    apply fs_one
    apply ts_cmp (fun _=>rfl)
    · apply ev_call (fun _ _=>rfl) (fun _ _=>⟨rfl,rfl,rfl⟩)
      · repeat clear Zg
      · apply es_cons
        · apply ev_slHE
          · exact ev_cell rfl g1
          · repeat clear Zg
          · exact .inl g2
          · exact lr
        · exact es_nil
      · repeat clear Zg
      · repeat clear Zg
      · exact c_max (by rw [←List.map_take];exact getLE) m1.1 m1.2
    apply ch_one
    · apply ev_call (fun _ _=>rfl) (fun _ _=>⟨rfl,rfl,rfl⟩)
      · repeat clear Zg
      · apply es_cons
        · apply ev_slLE
          · exact ev_cell rfl (getOldE g1)
          · repeat clear Zg
          · exact .inl (getOldE g2)
          · exact lr
        · exact es_nil
      · repeat clear Zg
      · repeat clear Zg
      · exact call_cast (c_min (by rw [←List.map_drop];exact getLE) m2.1 m2.2) rfl (by rw [List.append_assoc X])
    · exact c_lt
  · intro v _ _ X
    refine ⟨[],?_⟩
    rw [List.append_nil]
    apply ev_openN
    · exact rfl
    · exact ev_loc (by kernel_rfl) rfl
end
noncomputable def cutF:Nat→List Int→Nat→Nat→Nat→List (List Int)→Option (List (List Int))
  | 0,_,_,_,_,_=>none
  | d + 1,os,first,behind,power,ms =>
    if first < behind∧behind≤5∧1≤power∧power≤5 then
      partsF (cutF d os) first power (endsF (riseF power ((os.take behind).drop first))) ((endsF (riseF power ((os.take behind).drop first))).length - 1) 0 ms
    else none
section
variable {g:Gx} {n:Nat} {P G B:AHeap} {c oi ri first behind power:Nat} {l:Loc} {os rise:List Int} {x:Option AV} {ms:List (List Int)}
theorem cu_st0 (h1:B[oi]? = some (.list (os.map .int))) (h2:B[c]? = some (.cell (some (.int power)))) (h3:B[c+1]? = some (.cell x)) (h5:os.length≤20) (l1:l.lookup ("order" : Str)=some (.ob oi)) (l2:l.lookup ("first" : Str)=some (.int first)) (l3:l.lookup ("behind" : Str)=some (.int behind)) :
    St ⟨g,n,cuK c⟩ l B (sAt dCut.body 0) ⟨.next,l,(B++[AObj.list (((os.take behind).drop first).map .int)]++[AObj.list ((riseF power ((os.take behind).drop first)).map .int)]).set (c+1) (.cell (some (.ob (B.length+1))))⟩:=by
  apply st_openA
  · exact rfl
  apply st_assign
  · kernel_rfl
  · kernel_rfl
  · exact fun _ _=>rfl
  · exact ev_comp (cu_rise h1 h2 h5 l1 l2 l3)
  · apply as_name
    exact sn_cellG (by kernel_rfl) rfl (getOld (getOld h3))
theorem cutsF_len (rise:List Int):(cutsF rise).length≤rise.length - 1:=Nat.le_trans (List.length_filter_le ..) (Nat.le_of_eq List.length_range')
theorem cu_st1 (h1:B[c+1]? = some (.cell (some (.ob ri)))) (h2:B[ri]? = some (.list (rise.map .int))) (h5:rise.length≤20) (h0:1≤rise.length):∃ j Q,
    St ⟨g,n,cuK c⟩ l B (sAt dCut.body 1) ⟨.next,upd "ends" (.ob (B.length+j)) l,B++Q⟩∧Q[j]? = some (.list ((endsF rise).map fun k:Nat=>.int k)):=by
  have lr':(rise.map AV.int).length < 1000:=by rw [List.length_map];exact Nat.lt_of_le_of_lt h5 (by decide)
  have lc:=cutsF_len rise
  have la:([AV.int 0]++(cutsF rise).map fun k:Nat=>AV.int k).length≤1000:=by rw [List.length_append,List.length_map];show 1+_≤1000;omega
  have lb:(([AV.int 0]++(cutsF rise).map fun k:Nat=>AV.int k)++[AV.int ((rise.map AV.int).length:Nat)]).length≤1000:=by rw [List.length_append,List.length_append,List.length_map];show 1+_+1≤1000;omega
  obtain ⟨Q,e⟩:=cu_cuts (g:=g) (n:=n) (l:=l) (c:=c) (getOld (E:=[.list [.int 0]]) h1) (getOld h2) h5 h0
  have e:Ev ⟨g,n,cuK c⟩ l (B++([]++[.list [.int 0]])) cuE1 (.ob (B.length+1)) (B++(.list [.int 0] :: .list ((cutsF rise).map fun k:Nat=>.int k) :: Q)):=by
    apply ev_openC
    · exact rfl
    apply ev_as
    · exact ev_comp e
    · exact congrArg AV.ob len1
    · exact app3
  have e0:endsF rise=[0]++cutsF rise++[rise.length]:=rfl
  have e1:(B++[])[c+1]? = some (.cell (some (.ob ri))):=by rw [List.append_nil];exact h1
  have e2:(B++[])[ri]? = some (.list (rise.map .int)):=by rw [List.append_nil];exact h2
  have s:St ⟨g,n,cuK c⟩ l (B++[]) (sAt dCut.body 1) ⟨.next,upd "ends" (.ob (B.length+((AObj.list [.int 0] :: .list ((cutsF rise).map fun k:Nat=>.int k) :: Q)++[AObj.list ([.int 0]++(cutsF rise).map fun k:Nat=>.int k)]++[AObj.list [.int ((rise.map AV.int).length:Nat)]]).length)) l,
      B++((AObj.list [.int 0] :: .list ((cutsF rise).map fun k:Nat=>.int k) :: Q)++[AObj.list ([.int 0]++(cutsF rise).map fun k:Nat=>.int k)]++[AObj.list [.int ((rise.map AV.int).length:Nat)]]++[AObj.list (([.int 0]++(cutsF rise).map fun k:Nat=>.int k)++[.int ((rise.map AV.int).length:Nat)])])⟩:=by
    apply st_openA
    · exact rfl
    apply st_assign
    · kernel_rfl
    · kernel_rfl
    · exact fun _ _=>rfl
    · repeat clear Zg
      · exact e
      repeat clear Zg
    · apply as_name
      exact sn_here (by kernel_rfl)
  rw [List.append_nil] at s
  refine ⟨_,_,s,?_⟩
  rw [e0,List.map_append,List.map_append,List.length_map]
  exact get_last
theorem callCn {H E H1 H2:AHeap} {d:FD} {k:K} {args:List AV} {kws binds:List (Str × AV)} {l1 l2:Loc} (hm:d∈defTab) (hc:cellsN d.scope.names=E) (hk:kOf d false H.length=k) (hb:Bd g d args kws binds) (bs:Bs g k [] (H++E) binds l1 H1) (hx:Ex ⟨g,n,k⟩ l1 H1 d.body ⟨.next,l2,H2⟩):Call g (n+1) false H (.top d.addr) args kws .none H2:=by
  apply call_next hm hb
  · rw [hc,hk];exact bs
  · rw [hk];exact hx
theorem it_r1 {c:Cx} {H H1:AHeap} {e1:Expr} {np pos:Pos} {b:Int} {r:Nat} (hs:Plain [e1]) (hk:globQ c.k "range" = true) (h1:Ev c l H e1 (.int b) H1) (hb:lim3 0 b) (e:rangeN 0 b 1=r):It c l H (.Call (.Name "range" np) [e1] [] pos) (.range 0 1 r) H1:=e ▸ it_range1 hs hk h1 hb
noncomputable abbrev cuH (c power:Nat) (seg rise:List Int):AHeap:=[.cell (some (.int power)),.cell (some (.ob (c+3))),mkI seg,mkI rise]
theorem cut_n {L:Nat} (h:2≤L) (h2:L < 20):lim3 0 ((L:Int) - 1)∧rangeN 0 ((L:Int) - 1) 1=L - 1:=by
  unfold rangeN
  exact ⟨⟨⟨by omega,by omega⟩,by omega,by omega⟩,by rw [if_pos (by omega)];omega⟩
theorem c_cut (ho:P[oi]? = some (.list (os.map .int))) (o5:os.length=5):∀ d,CutOk g (n+d) P oi (cutF d os)
  | 0 => by intro f b pw ms ms' G h5 h;cases h
  | d + 1 => by
    intro first behind power ms ms' G h5 h
    have ih:=c_cut ho o5 d
    unfold cutF at h
    by_cases hc:first < behind∧behind≤5∧1≤power∧power≤5
    · rw [if_pos hc] at h
      obtain ⟨c1,c2,c3,c4⟩:=hc
      have lseg:((os.take behind).drop first).length=behind - first:=by rw [List.length_drop,List.length_take,o5];omega
      have lrise:(riseF power ((os.take behind).drop first)).length=behind - first:=by rw [riseF,List.length_map,lseg]
      have s0:=cu_st0 (g:=g) (n:=n+d) (B:=hC P ms (G++[.cell (some (.int power)),.cell none])) (c:=P.length+(G.length+6)) (x:=none) (power:=power) (first:=first) (behind:=behind) (l:=[("order",.ob oi),("first",.int first),("behind",.int behind),("made",.ob P.length)]) (hC_old ho) (hC_new (i:=0) h5.len) (hC_new (i:=1) h5.len) (by rw [o5];decide) rfl rfl rfl
      generalize (os.take behind).drop first=seg at *
      generalize riseF power seg=rise at *
      have ends2:2≤(endsF rise).length:=by unfold endsF;rw [List.length_cons,List.length_append];show 2≤_+1+1;omega
      have lends:(endsF rise).length < 20:=by
        have:=cutsF_len rise
        unfold endsF;rw [List.length_cons,List.length_append];show _+1+1 < 20;omega
      rw [hC_app,hC_app,List.append_assoc,List.append_assoc,hC_setN h5.len,hC_len h5.len,List.length_append] at s0
      obtain ⟨j,Q,s1,hq⟩:=cu_st1 (g:=g) (n:=n+d) (B:=hC P ms (G++cuH (P.length+(G.length+6)) power seg rise)) (c:=P.length+(G.length+6)) (ri:=P.length+(G.length+6)+3) (rise:=rise) (l:=[("order",.ob oi),("first",.int first),("behind",.int behind),("made",.ob P.length)]) (hC_new (i:=1) h5.len) (hC_new (i:=3) h5.len) (by omega) (by omega)
      rw [hC_app] at s1
      have hen:∀ ms':List (List Int),ms'.length=5→(hC P ms' (G++cuH (P.length+(G.length+6)) power seg rise++Q))[(hC P ms (G++cuH (P.length+(G.length+6)) power seg rise)).length+j]? = some (.list ((endsF rise).map fun k:Nat=>.int k)):=fun ms' h'=>by
        rw [hC_len h5.len];exact (hC_new h').trans hq
      obtain ⟨h5',G',w⟩:=cu_parts (g:=g) (n:=n+d) (first:=first) (behind:=behind) ih lends c3 c4 _ 0 ms _ (fun ms' h'=>by rw [←hC_app];exact getOld (hC_new (i:=0) h')) hen h5 h
      refine ⟨h5',cuH (P.length+(G.length+6)) power seg rise++Q++G',?_⟩
      have lm:((endsF rise).map fun k:Nat=>AV.int k).length < 1000:=by rw [List.length_map];exact Nat.lt_trans lends (by decide)
      have ge:=hen ms h5.len
      have body:Ex ⟨g,n+d,cuK (P.length+(G.length+6))⟩ [("order",.ob oi),("first",.int first),("behind",.int behind),("made",.ob P.length)] (hC P ms (G++[.cell (some (.int power)),.cell none])) dCut.body ⟨.next,cuL oi first behind P.length ((hC P ms (G++cuH (P.length+(G.length+6)) power seg rise)).length+j),hC P ms' (G++(cuH (P.length+(G.length+6)) power seg rise++Q++G'))⟩:=by
        apply ex_as
        · exact (show dCut.body=[sAt dCut.body 0,sAt dCut.body 1,cuF2] by kernel_rfl)
        apply ex_cons
        · exact s0
        apply ex_cons
        · exact s1
        apply ex_cons
        · apply st_openF
          · exact rfl
          apply st_for
          · exact fun _ _=>rfl
          · rfl
          · apply it_r1 (r:=(endsF rise).length - 1) (fun _ _=>rfl) (by kernel_rfl)
            · repeat clear Zg
            · rw [List.length_map];exact (cut_n ends2 lends).1
            · rw [List.length_map];exact (cut_n ends2 lends).2
          · exact w
        rw [List.append_assoc G,List.append_assoc G]
        exact ex_nil
      apply callCn (d:=dCut) (k:=cuK (P.length+(G.length+6))) (E:=[.cell none,.cell none]) (in_tab 21 rfl) (by kernel_rfl) (by rw [hC_len h5.len];kernel_rfl) (bd_5 (n1:="order") (n2:="first") (n3:="behind") (n4:="power") (n5:="made") (in_tab 21 rfl) (by kernel_rfl) (by decide +kernel) (fun _ _ _ _ _ _ _ _ _ _=>by kernel_rfl))
      · apply bs_cons
        · exact sn_loc (by kernel_rfl)
        apply bs_cons
        · exact sn_loc (by kernel_rfl)
        apply bs_cons
        · exact sn_loc (by kernel_rfl)
        apply bs_cons
        · exact sb_cell0 (by kernel_rfl) (by rw [hC_len h5.len];rfl) rfl
        apply bs_cons
        · exact sn_loc (by kernel_rfl)
        exact bs_nil
      rw [hC_app]
      exact body
    · rw [if_neg hc] at h;cases h
end
structure NodeAt (B:AHeap) (d:Nat) (tag:Str) (es:List (Str × AV)):Prop where
  dict:B[d]? = some (.dict es)
  cell:B[d+1]? = some (.cell (some (.ob (d+2))))
  fn:B[d+3]? = some (thFn (d+5))
  ns:B[d+5]? = some (.nsd (thNs (d+1) (.str tag) (.ob d)))
  app:B[d+6]? = some (thApp (d+1))
section
variable {g:Gx} {n:Nat} {hd:Bool} {B B' X:AHeap} {d i f u:Nat} {tag:Str} {es:List (Str × AV)} {o:AObj} {b:Int} {ps:List (Int × AV)}
theorem NodeAt.tag_ (h:NodeAt B d tag es):AttrQ B (d+3) "tag" (.str tag):=⟨h.fn,h.ns,by kernel_rfl,rfl,rfl⟩
theorem NodeAt.attrib_ (h:NodeAt B d tag es):AttrQ B (d+3) "attrib" (.ob d):=⟨h.fn,h.ns,by kernel_rfl,rfl,rfl⟩
theorem NodeAt.kids_ (h:NodeAt B d tag es):AttrQ B (d+3) "kids" (.ob (d+2)):=⟨h.fn,h.ns,by kernel_rfl,rfl,rfl⟩
theorem NodeAt.append_ (h:NodeAt B d tag es):AttrQ B (d+3) "append" (.ob (d+6)):=⟨h.fn,h.ns,by kernel_rfl,rfl,rfl⟩
theorem NodeAt.make_ (h:NodeAt B d tag es):AttrQ B (d+3) "makeelement" (.top 129):=⟨h.fn,h.ns,by kernel_rfl,rfl,rfl⟩
theorem NodeAt.more (h:NodeAt B d tag es):NodeAt (B++X) d tag es:=⟨getOld h.dict,getOld h.cell,getOld h.fn,getOld h.ns,getOld h.app⟩
noncomputable abbrev Keep (i:Nat) (B B':AHeap):Prop:=∀ {j:Nat} {o:AObj},j≠i→B[j]? = some o→B'[j]? = some o
theorem NodeAt.keep (h:NodeAt B d tag es) (k:Keep i B B') (hi:B[i]? = some o) (ho:tagO o=0∨tagO o=2) (hd:d≠i):NodeAt B' d tag es:=by
  have t:∀ {j o'},B[j]? = some o'→2 < tagO o'→B'[j]? = some o':=fun {j o'} hj ht=>k (fun e=>by
    subst e
    obtain rfl:=Option.some.inj (hi.symm.trans hj)
    rcases ho with q | q <;> rw [q] at ht <;> exact absurd ht (by decide)) hj
  exact ⟨k hd h.dict,t h.cell (Nat.le_of_ble_eq_true rfl),t h.fn (Nat.le_of_ble_eq_true rfl),t h.ns (Nat.le_of_ble_eq_true rfl),t h.app (Nat.le_of_ble_eq_true rfl)⟩
noncomputable def thKey:AObj:=mkLam (kwN (match asgV (sAt dThing.body 4) with | .Lambda _ b _ _=>b | _=>default) 0) (lamQ dThing ++ ".<locals>." ++ "<lambda>") [] none
theorem thKey_call (h1:B[f]? = some thKey) (h2:NodeAt B d tag es) (hb:es.lookup ("bend" : Str)=some (.int b)):Call g (n+1) hd B (.ob f) [.ob (d+3)] [] (.int b) B:=by
  have ha:=h2.attrib_
  have hd':=h2.dict
  apply call_lam0 (nm:="one") h1 ⟨by kernel_rfl,by kernel_rfl,by kernel_rfl⟩ (fun _ _ _ _ _=>by kernel_rfl) (by kernel_rfl) (by kernel_rfl)
  repeat clear Zg
noncomputable abbrev BendAt (B:AHeap) (b:Int) (v:AV):Prop:=∃ d tag es,v = .ob (d+3)∧NodeAt B d tag es∧es.lookup ("bend" : Str)=some (.int b)
theorem append_call {v:AV} (h:NodeAt B d tag es) (hl:B[d+2]? = some (.list (ps.map (·.2)))) (hs:ps.length≤20) (so:Srt ps) (hp:∀ p∈ps,BendAt B p.1 p.2) (hu:BendAt B b v) :
    Call g (n+4) hd B (.ob (d+6)) [v] [] .none ((B++[thKey]).set (d+2) (.list ((sortIns b v ps).map (·.2)))):=by
  have kc:∀ {m b v},BendAt B b v→Call g (m+1) hd (B++[thKey]) (.ob B.length) [v] [] (.int b) (B++[thKey]):=fun h=>h.elim fun d h=>h.elim fun tag h=>h.elim fun es h=>h.1 ▸ thKey_call get_last h.2.1.more h.2.2
  have kd:Keyed g (n+1) hd (B++[thKey]) B.length ps:=⟨⟨_,_,_,_,_,_,get_last⟩,fun p m=>kc (hp p m)⟩
  have c:=c_insR (g:=g) (n:=n+1) (hd:=hd) (getOld (E:=[thKey]) hl) hs so kd (kc (m:=n+1) hu)
  have hc:=h.cell
  apply call_lam0 (nm:="kid") h.app ⟨by kernel_rfl,by kernel_rfl,by kernel_rfl⟩ (fun _ _ _ _ _=>by kernel_rfl) (by kernel_rfl) (by kernel_rfl)
  repeat clear Zg
  exact c
theorem c_thingE {E:AHeap} {tg at_:AV}:Call g (n+1) hd (B++E) (.top 129) [tg,at_] [] (.ob (B.length+(E.length+2))) (B++(E++thE (B.length+E.length) tg at_)):=by
  rw [←app3,←lenE,←Nat.add_assoc,←lenE];exact c_thing
noncomputable def selE (L:Nat) (kws es:List (Str × AV)) (tag:Str):AHeap:=[.dict kws,.dict (mergeD es kws)]++thE (L+2) (.str tag) (.ob (L+1))++[thKey]
theorem sel_node {kws:List (Str × AV)}:NodeAt (B++selE B.length kws es tag) (B.length+1) tag (mergeD es kws):=⟨getK (k:=1) rfl,getK (k:=2) rfl,getK (k:=4) rfl,getK (k:=6) rfl,getK (k:=7) rfl⟩
theorem sel_kids {kws:List (Str × AV)}:(B++selE B.length kws es tag)[B.length+1+2]? = some (.list []):=getK (k:=3) rfl
theorem sub_body {N tb:Nat} {tag':Str} {kws es':List (Str × AV)} (h:NodeAt B d tag es) (hl:B[d+2]? = some (.list (ps.map (·.2)))) (hs:ps.length≤20) (so:Srt ps) (hp:∀ p∈ps,BendAt B p.1 p.2) (htb:B[tb]? = some (.dict es')) (hk:es'.length+kws.length≤1000)
    (hb : (mergeD es' kws).lookup ("bend" : Str)=some (.int b)):∃ l,Ex ⟨g,n+4,kOf dSubEl hd N⟩ [("parent",.ob (d+3)),("tag",.str tag'),("attrib",.ob tb),("extra",.ob B.length)] (B++[.dict kws]) dSubEl.body
      ⟨.ret (.ob (B.length+1+3)),l,(B++selE B.length kws es' tag').set (d+2) (.list ((sortIns b (.ob (B.length+1+3)) ps).map (·.2)))⟩:=by
  have nd:NodeAt (B++([.dict kws,.dict (mergeD es' kws)]++thE (B.length+2) (.str tag') (.ob (B.length+1)))) (B.length+1) tag' (mergeD es' kws):=⟨getK (k:=1) rfl,getK (k:=2) rfl,getK (k:=4) rfl,getK (k:=6) rfl,getK (k:=7) rfl⟩
  have m1:=(h.more (X:=[.dict kws,.dict (mergeD es' kws)])).make_
  have hX:=h.more (X:=[.dict kws,.dict (mergeD es' kws)]++thE (B.length+2) (.str tag') (.ob (B.length+1)))
  have m2:=hX.append_
  have ap:=append_call (g:=g) (n:=n) (hd:=hd) (b:=b) (v:=.ob (B.length+1+3)) hX (getOld hl) hs so (fun p m=>(hp p m).imp fun d h=>h.imp fun tag h=>h.imp fun es h=>⟨h.1,h.2.1.more,h.2.2⟩) ⟨_,_,_,rfl,nd,hb⟩
  apply Exists.intro
  apply ex_as
  · exact (show dSubEl.body=[sAt dSubEl.body 0,sAt dSubEl.body 1,sAt dSubEl.body 2,sAt dSubEl.body 3] by kernel_rfl)
  apply ex_cons
  · apply st_openA
    · exact rfl
    apply st_assign
    · kernel_rfl
    · kernel_rfl
    · exact fun _ _=>rfl
    · apply ev_as
      · apply ev_dict2 (i:=tb) (j:=B.length) (by kernel_rfl) rfl (by kernel_rfl) rfl (getOld htb) get_last hk
      · exact congrArg AV.ob len1
      · exact app3
    · repeat clear Zg
  apply ex_cons
  · apply st_openA
    · exact rfl
    apply st_assign
    · kernel_rfl
    · kernel_rfl
    · exact fun _ _=>rfl
    · apply ev_mfn (fun _ _ _=>rfl) (fun _ _=>rfl) (fun _ _=>rfl) rfl
      · repeat clear Zg
      · exact m1
      · repeat clear Zg
      · repeat clear Zg
      · exact c_thingE
    · repeat clear Zg
  apply ex_cons
  · apply st_as (l1:=upd "element" (.ob (B.length+1+3)) (upd "attrib" (.ob (B.length+1)) [("parent",.ob (d+3)),("tag",.str tag'),("attrib",.ob tb),("extra",.ob B.length)]))
    · apply st_openE
      · exact rfl
      apply st_expr
      · exact fun _ _=>rfl
      apply ev_mfn (fun _ _ _=>rfl) (fun _ _=>rfl) (fun _ _=>rfl) rfl
      · repeat clear Zg
      · exact m2
      · repeat clear Zg
      · exact FnQ.ob hX.app
      · exact ap
    · exact rfl
    · exact congrArg (List.set · (d+2) _) app3
  apply ex_ret
  apply st_openR
  · exact rfl
  apply st_ret
  exact ev_loc (by kernel_rfl) rfl
theorem c_sub0 {tb:Nat} {tag':Str} {es':List (Str × AV)} (h:NodeAt B d tag es) (hl:B[d+2]? = some (.list (ps.map (·.2)))) (hs:ps.length≤20) (so:Srt ps) (hp:∀ p∈ps,BendAt B p.1 p.2) (htb:B[tb]? = some (.dict es')) (hk:es'.length≤100)
    (hb:(mergeD es' []).lookup ("bend" : Str)=some (.int b)):Call g (n+5) hd B (.top 122) [.ob (d+3),.str tag',.ob tb] [] (.ob (B.length+1+3)) ((B++selE B.length [] es' tag').set (d+2) (.list ((sortIns b (.ob (B.length+1+3)) ps).map (·.2)))):=by
  obtain ⟨l,w⟩:=sub_body (g:=g) (n:=n) (hd:=hd) (N:=(B++[AObj.dict []]).length) (kws:=[]) h hl hs so hp htb (Nat.le_trans hk (by decide)) hb
  apply call_sub0
  · rw [show cellsN dSubEl.scope.names=[] by kernel_rfl,List.append_nil]
    exact bs_loc (by kernel_rfl)
  · exact w
theorem c_sub2 {tb:Nat} {tag':Str} {es':List (Str × AV)} {v w:AV} (h:NodeAt B d tag es) (hl:B[d+2]? = some (.list (ps.map (·.2)))) (hs:ps.length≤20) (so:Srt ps) (hp:∀ p∈ps,BendAt B p.1 p.2) (htb:B[tb]? = some (.dict es')) (hk:es'.length≤100)
    (hb:(mergeD es' [("bend",v),("name",w)]).lookup ("bend" : Str)=some (.int b)):Call g (n+5) hd B (.top 122) [.ob (d+3),.str tag',.ob tb] [("bend",v),("name",w)] (.ob (B.length+1+3)) ((B++selE B.length [("bend",v),("name",w)] es' tag').set (d+2) (.list ((sortIns b (.ob (B.length+1+3)) ps).map (·.2)))):=by
  obtain ⟨l,q⟩:=sub_body (g:=g) (n:=n) (hd:=hd) (N:=(B++[AObj.dict [("bend",v),("name",w)]]).length) (kws:=[("bend",v),("name",w)]) h hl hs so hp htb (Nat.le_trans (Nat.add_le_add_right hk 2) (by decide)) hb
  apply call_sub2
  · rw [show cellsN dSubEl.scope.names=[] by kernel_rfl,List.append_nil]
    exact bs_loc (by kernel_rfl)
  · exact q
end
structure Nd where
  id:Nat
  pre:List Int
  name:Nat
noncomputable def Nd.last (n:Nd):Int:=n.pre.getLastD 0
noncomputable def isKid (q:List Int) (n:Nd):Bool:=n.pre == q++[n.last]
noncomputable def kidsA (N:List Nd) (q:List Int):List (Int × AV):=sortA ((N.filter (isKid q)).map fun n=>(n.last,AV.ob (n.id+3))) []
theorem isKid_iff {q:List Int} {n:Nd}:isKid q n=true↔n.pre=q++[n.last]:=beq_iff_eq
theorem kid_cancel {q q':List Int} {a b:Int} (h:q++[a]=q'++[b]):q=q':=(List.append_inj' h rfl).1
section
variable {N:List Nd} {q q':List Int} {n u m:Nd} {i b:Int} {d nm:Nat}
theorem kidsA_snoc:kidsA (N++[u]) q=if isKid q u=true then sortIns u.last (.ob (u.id+3)) (kidsA N q) else kidsA N q:=by
  unfold kidsA
  rw [List.filter_append]
  by_cases h:isKid q u=true
  · rw [if_pos h,List.filter_cons_of_pos h,List.map_append]
    exact sortA_snoc (u.last,AV.ob (u.id+3)) _ _
  · rw [if_neg h,List.filter_cons_of_neg h,List.filter_nil,List.append_nil]
theorem kidsA_mem {p:Int × AV} (h:p∈kidsA N q):∃ n∈N,isKid q n=true∧p=(n.last,.ob (n.id+3)):=by
  obtain ⟨n,hn,e⟩:=List.mem_map.mp (((mem_sortA _ _).mp h).resolve_right fun m=>nomatch m)
  exact ⟨n,(List.mem_filter.mp hn).1,(List.mem_filter.mp hn).2,e.symm⟩
theorem kidsA_of (h:n∈N) (hk:isKid q n=true):(n.last,AV.ob (n.id+3))∈kidsA N q:=(mem_sortA _ _).mpr (.inl (List.mem_map.mpr ⟨n,List.mem_filter.mpr ⟨h,hk⟩,rfl⟩))
theorem kidsA_srt:Srt (kidsA N q):=srt_sortA .nil
theorem kidsA_len:(kidsA N q).length≤N.length:=by
  unfold kidsA;rw [len_sortA,List.length_map];exact List.length_filter_le ..
theorem new_last:Nd.last ⟨d,q++[b],nm⟩=b:=List.getLastD_concat
theorem new_kid:isKid q' ⟨d,q++[b],nm⟩=true↔q=q':=by
  rw [isKid_iff,new_last]
  exact ⟨fun h=>kid_cancel h,fun h=>by rw [h]⟩
noncomputable abbrev allN (r:Nat) (N:List Nd):List Nd:=⟨r,[],0⟩ :: N
structure Tr (r:Nat) (N:List Nd):Prop where
  nd:(allN r N).Pairwise fun a b=>a.id≠b.id
  uniq:∀ n∈allN r N,∀ m∈allN r N,n.pre=m.pre→n.pre.length < 3→n=m
  par:∀ m∈N,∃ n∈allN r N,isKid n.pre m=true
theorem ids_inj:∀ {l:List Nd},(l.Pairwise fun a b=>a.id≠b.id)→n∈l→m∈l→n.id=m.id→n=m
  | a :: l,h,hn,hm,e=>by
    have h:=List.pairwise_cons.mp h
    exact (List.mem_cons.mp hn).elim (fun q=>(List.mem_cons.mp hm).elim (fun w=>q.trans w.symm) fun hm=>absurd (q ▸ e) (h.1 m hm))
      fun hn=>(List.mem_cons.mp hm).elim (fun w=>absurd (w ▸ e).symm (h.1 n hn)) fun hm=>ids_inj h.2 hn hm e
theorem mem_new {r:Nat} (h:m∈allN r (N++[u])):m∈allN r N∨m=u:=(List.mem_append.mp (show m∈allN r N++[u] from h)).imp id List.mem_singleton.mp
theorem mem_old {r:Nat} (h:m∈allN r N):m∈allN r (N++[u]):=show m∈allN r N++[u] from List.mem_append_left _ h
theorem mem_u {r:Nat}:u∈allN r (N++[u]):=show u∈allN r N++[u] from List.mem_append_right _ (.head _)
theorem Tr.add {r:Nat} (T:Tr r N) {t:Nd} (ht:t∈allN r N) (hd:∀ n∈allN r N,n.id≠d) (hnew:(t.pre++[b]).length < 3→∀ n∈allN r N,n.pre≠t.pre++[b]):Tr r (N++[⟨d,t.pre++[b],nm⟩]):=
  ⟨List.pairwise_append.mpr ⟨T.nd,List.pairwise_singleton ..,fun n hn m hm=>List.mem_singleton.mp hm ▸ hd n hn⟩,
    fun n hn m hm e l=>(mem_new hn).elim (fun hn=>(mem_new hm).elim (fun hm=>T.uniq n hn m hm e l) fun hm=>by subst hm;exact absurd e (hnew (Nat.lt_of_le_of_lt (Nat.le_of_eq (congrArg List.length e.symm)) l) n hn))
      fun hn=>by
        subst hn
        exact (mem_new hm).elim (fun hm=>absurd e.symm (hnew l m hm)) fun hm=>hm.symm,
    fun m hm=>(List.mem_append.mp hm).elim (fun hm=>(T.par m hm).imp fun n h=>⟨mem_old h.1,h.2⟩) fun hm=>⟨t,mem_old ht,by rw [List.mem_singleton.mp hm];exact new_kid.mpr rfl⟩⟩
end
noncomputable def tagOf (q:List Int):Str:=if q.length=0 then "bush" else if q.length=3 then "curve" else "joint"
structure NdAt (B:AHeap) (n:Nd) (es:List (Str × AV)):Prop where
  at_:NodeAt B n.id (tagOf n.pre) es
  bend:n.pre≠[]→es.lookup ("bend" : Str)=some (.int n.last)
  name:n.pre.length=3→es.lookup ("name" : Str)=some (.int (n.name:Nat))
structure HT (B:AHeap) (r:Nat) (N:List Nd):Prop where
  node:∀ n∈allN r N,∃ es,NdAt B n es
  kids:∀ n∈allN r N,n.pre.length < 3→B[n.id+2]? = some (.list ((kidsA N n.pre).map (·.2)))
section
variable {B B' X:AHeap} {N:List Nd} {r i d nm:Nat} {o:AObj} {t n:Nd} {b:Int} {es:List (Str × AV)}
theorem HT.more (h:HT B r N):HT (B++X) r N:=⟨fun n hn=>(h.node n hn).imp fun es q=>⟨q.at_.more,q.bend,q.name⟩,fun n hn l=>getOld (h.kids n hn l)⟩
theorem HT.put (h:HT B r N) (k:Keep i B B') (hi:B[i]? = some o) (ho:tagO o=0∨tagO o=2) (h0:∀ n∈allN r N,n.id≠i) (h2:∀ n∈allN r N,n.id+2≠i):HT B' r N:=
  ⟨fun n hn=>(h.node n hn).imp fun es q=>⟨q.at_.keep k hi ho (h0 n hn),q.bend,q.name⟩,fun n hn l=>k (h2 n hn) (h.kids n hn l)⟩
theorem HT.bends (h:HT B r N) (q:List Int):∀ p∈kidsA N q,BendAt B p.1 p.2:=fun p hp=>by
  obtain ⟨n,hn,hk,rfl⟩:=kidsA_mem hp
  obtain ⟨es,w⟩:=h.node n (.tail _ hn)
  exact ⟨_,_,es,rfl,w.at_,w.bend fun e=>by rw [isKid_iff.mp hk] at e;exact List.append_ne_nil_of_right_ne_nil _ (List.cons_ne_nil _ _) e⟩
theorem HT.lt (h:HT B r N) (hn:n∈allN r N):n.id+6 < B.length:=(h.node n hn).elim fun es q=>(List.getElem?_eq_some_iff.mp q.at_.app).1
theorem keep_set {o':AObj}:Keep i B (B.set i o'):=fun n h=>(List.getElem?_set_ne (Ne.symm n)).trans h
theorem HT.add (h:HT B r N) (T:Tr r N) (ht:t∈allN r N) (hq:t.pre.length < 3) (hX:NdAt (B++X) ⟨d,t.pre++[b],nm⟩ es) (hk:(B++X)[d+2]? = some (.list [])) (hd:B.length≤d) (hnew:(t.pre++[b]).length < 3→∀ n∈allN r N,n.pre≠t.pre++[b]) :
    HT ((B++X).set (t.id+2) (.list ((sortIns b (.ob (d+3)) (kidsA N t.pre)).map (·.2)))) r (N++[⟨d,t.pre++[b],nm⟩]):=by
  have tl:=h.kids t ht hq
  have tl':=getOld (E:=X) tl
  have lt:t.id+2 < d:=Nat.lt_of_lt_of_le (Nat.lt_trans (Nat.add_lt_add_left (by decide) _) (h.lt ht)) hd
  have K:Keep (t.id+2) (B++X) ((B++X).set (t.id+2) (.list ((sortIns b (.ob (d+3)) (kidsA N t.pre)).map (·.2)))):=keep_set
  refine ⟨fun n hn=>(mem_new hn).elim (fun hn=>(h.node n hn).imp fun es q=>⟨q.at_.more.keep K tl' (.inl rfl) (ne_obj q.at_.dict tl rfl),q.bend,q.name⟩) fun hn=>?_,fun n hn l=>?_⟩
  · subst hn
    exact ⟨es,hX.at_.keep K tl' (.inl rfl) (Nat.ne_of_gt lt),hX.bend,hX.name⟩
  · rw [kidsA_snoc]
    rcases mem_new hn with hn | rfl
    · by_cases e:t.pre=n.pre
      · obtain rfl:=T.uniq n hn t ht e.symm l
        rw [if_pos (new_kid.mpr rfl),new_last]
        exact getSame tl'
      · rw [if_neg fun q=>e (new_kid.mp q)]
        exact K (fun q=>e (congrArg Nd.pre (ids_inj T.nd hn ht (Nat.add_right_cancel q))).symm) (getOld (h.kids n hn l))
    · rw [if_neg fun q=>by have:=congrArg List.length (new_kid.mp q);rw [List.length_append] at this;exact absurd this (Nat.ne_of_lt (Nat.lt_succ_self _))]
      have e0:kidsA N (t.pre++[b])=[]:=by
        unfold kidsA
        rw [List.filter_eq_nil_iff.mpr fun m hm q=>by
          obtain ⟨n',hn',hq'⟩:=T.par m hm
          exact hnew l n' hn' (kid_cancel ((isKid_iff.mp hq').symm.trans (isKid_iff.mp q)))]
        rfl
      rw [show (kidsA N (Nd.mk d (t.pre++[b]) nm).pre)=[] from e0]
      exact K (Nat.ne_of_gt (Nat.lt_trans lt (Nat.lt_add_of_pos_right (by decide)))) hk
end
noncomputable abbrev ixM:AV:=.str "sequence.index(x): x not in sequence"
structure Bu (H B:AHeap) (r tb c:Nat) (L:List (Nat × List AV)) (N:List Nd):Prop where
  pfx:∃ Y,B=H++Y
  tr:Tr r N
  ht:HT B r N
  tbl:∃ es,B[tb]? = some (.dict es)∧(es=[]∨∃ v:Int,es=[(("bend" : Str),AV.int v)])
  wds:∃ k,B[tb+1]? = some (.list (List.replicate k ixM))∧k≤c
  lo:H.length≤tb
  far:∀ n∈allN r N,H.length≤n.id
  bare:∃ v,AttrQ B (tb+2) "tag" v
  hold:∀ p∈L,B[p.1]? = some (.list p.2)∧p.1≠tb+1∧∀ n∈allN r N,p.1≠n.id+2
section
variable {H B B' X:AHeap} {r tb c c' i d nm:Nat} {L:List (Nat × List AV)} {N:List Nd} {o o':AObj} {n t:Nd} {v:AV} {b:Int} {es kws:List (Str × AV)} {nm':Str}
theorem lt_of (h:B[i]? = some o):i < B.length:=(List.getElem?_eq_some_iff.mp h).1
theorem attr_keep (h:AttrQ B i nm' v) {j:Nat} (k:Keep j B B') (hj:B[j]? = some o) (ho:tagO o=0∨tagO o=2):AttrQ B' i nm' v:=by
  obtain ⟨h1,h2,h3,h4,h5⟩:=h
  have t:∀ {m o'},B[m]? = some o'→2 < tagO o'→B'[m]? = some o':=fun {m o'} hm ht=>k (fun e=>by
    subst e
    obtain rfl:=Option.some.inj (hj.symm.trans hm)
    rcases ho with q | q <;> rw [q] at ht <;> exact absurd ht (by decide)) hm
  exact ⟨t h1 (Nat.le_of_ble_eq_true rfl),t h2 (Nat.le_of_ble_eq_true rfl),h3,h4,h5⟩
theorem attr_more (h:AttrQ B i nm' v):AttrQ (B++X) i nm' v:=h.rec fun h1 h2 h3 h4 h5=>⟨getOld h1,getOld h2,h3,h4,h5⟩
theorem Bu.more (h:Bu H B r tb c L N):Bu H (B++X) r tb c L N:=
  ⟨h.pfx.elim fun Y e=>⟨Y++X,by rw [e,app3]⟩,h.tr,h.ht.more,h.tbl.imp fun es q=>⟨getOld q.1,q.2⟩,h.wds.imp fun k q=>⟨getOld q.1,q.2⟩,h.lo,h.far,h.bare.imp fun v=>attr_more,fun p m=>⟨getOld (h.hold p m).1,(h.hold p m).2⟩⟩
theorem Bu.old (h:Bu H B r tb c L N) {j:Nat} {o:AObj} (e:H[j]? = some o):B[j]? = some o:=h.pfx.elim fun Y q=>q ▸ getOld e
theorem pfx_set (h:∃ Y,B=H++Y) (hi:H.length≤i):∃ Z,B.set i o=H++Z:=h.elim fun Y e=>⟨Y.set (i - H.length) o,by rw [e,List.set_append_right _ _ hi]⟩
theorem Bu.put (h:Bu H B r tb c L N) (hi:B[i]? = some o) (ho:tagO o=0∨tagO o=2) (hH:H.length≤i) (n0:∀ n∈allN r N,n.id≠i) (n2:∀ n∈allN r N,n.id+2≠i) (hl:∀ p∈L,p.1≠i)
    (tbl:∃ es,(B.set i o')[tb]? = some (.dict es)∧(es=[]∨∃ v:Int,es=[(("bend" : Str),AV.int v)])) (wds:∃ k,(B.set i o')[tb+1]? = some (.list (List.replicate k ixM))∧k≤c'):Bu H (B.set i o') r tb c' L N:=
  ⟨pfx_set h.pfx hH,h.tr,h.ht.put keep_set hi ho n0 n2,tbl,wds,h.lo,h.far,h.bare.imp fun v q=>attr_keep q keep_set hi ho,fun p m=>⟨keep_set (hl p m) (h.hold p m).1,(h.hold p m).2⟩⟩
theorem Bu.table (h:Bu H B r tb c L N) (v:Int):Bu H (B.set tb (.dict [("bend",.int v)])) r tb c L N∧(B.set tb (.dict [("bend",.int v)]))[tb]? = some (.dict [("bend",.int v)]):=by
  obtain ⟨es,t1,t2⟩:=h.tbl
  obtain ⟨k,w1,w2⟩:=h.wds
  have g:=getSame (o:=.dict [("bend",.int v)]) t1
  exact ⟨h.put t1 (.inr rfl) h.lo (fun n hn e=>(h.ht.node n hn).elim fun es q=>ne_obj q.at_.cell w1 rfl (congrArg (·+1) e)) (fun n hn e=>(h.ht.node n hn).elim fun es q=>ne_obj q.at_.fn w1 rfl (congrArg (·+1) e))
    (fun p m=>ne_obj (h.hold p m).1 t1 rfl) ⟨_,g,.inr ⟨v,rfl⟩⟩ ⟨k,getNe (Nat.ne_of_lt (Nat.lt_succ_self _)) w1,w2⟩,g⟩
theorem Bu.words {k:Nat} (h:Bu H B r tb c L N) (w1:B[tb+1]? = some (.list (List.replicate k ixM))) (w2:k≤c):Bu H (B.set (tb+1) (.list (List.replicate k ixM++[ixM]))) r tb (c+1) L N:=by
  obtain ⟨es,t1,t2⟩:=h.tbl
  exact h.put w1 (.inl rfl) (Nat.le_succ_of_le h.lo) (fun n hn=>(h.ht.node n hn).elim fun es q=>ne_obj q.at_.dict w1 rfl) (fun n hn e=>(h.ht.node n hn).elim fun es q=>ne_obj q.at_.cell t1 rfl (Nat.succ.inj e))
    (fun p m=>(h.hold p m).2.1) ⟨es,getNe (Nat.ne_of_gt (Nat.lt_succ_self _)) t1,t2⟩ ⟨k+1,by rw [←List.replicate_succ'];exact getSame w1,Nat.succ_le_succ w2⟩
theorem Bu.add (h:Bu H B r tb c L N) (ht:t∈allN r N) (hq:t.pre.length < 3) (hb:(mergeD es kws).lookup ("bend" : Str)=some (.int b)) (hn:(t.pre++[b]).length=3→(mergeD es kws).lookup ("name" : Str)=some (.int (nm:Nat))) (hnew:(t.pre++[b]).length < 3→∀ n∈allN r N,n.pre≠t.pre++[b]) :
    Bu H ((B++selE B.length kws es (tagOf (t.pre++[b]))).set (t.id+2) (.list ((sortIns b (.ob (B.length+1+3)) (kidsA N t.pre)).map (·.2)))) r tb c L (N++[⟨B.length+1,t.pre++[b],nm⟩]):=by
  have ltB:∀ n∈allN r N,n.id≠B.length+1:=fun n hn=>Nat.ne_of_lt (Nat.lt_succ_of_lt (Nat.lt_of_le_of_lt (Nat.le_add_right _ 6) (h.ht.lt hn)))
  obtain ⟨es',t1,t2⟩:=h.tbl
  obtain ⟨k,w1,w2⟩:=h.wds
  have tl:=h.ht.kids t ht hq
  have hX:NdAt (B++selE B.length kws es (tagOf (t.pre++[b]))) ⟨B.length+1,t.pre++[b],nm⟩ (mergeD es kws):=⟨sel_node,fun _=>by rw [hb,new_last],hn⟩
  have K:Keep (t.id+2) (B++selE B.length kws es (tagOf (t.pre++[b]))) ((B++selE B.length kws es (tagOf (t.pre++[b]))).set (t.id+2) (.list ((sortIns b (.ob (B.length+1+3)) (kidsA N t.pre)).map (·.2)))):=keep_set
  refine ⟨pfx_set h.more.pfx (Nat.le_trans (h.far t ht) (Nat.le_add_right _ _)),h.tr.add ht ltB hnew,h.ht.add h.tr ht hq hX sel_kids (Nat.le_succ _) hnew,⟨es',K (ne_obj t1 tl rfl) (getOld t1),t2⟩,
    ⟨k,K (fun e=>(h.ht.node t ht).elim fun es q=>ne_obj t1 q.at_.cell rfl (Nat.succ.inj e)) (getOld w1),w2⟩,h.lo,fun n hn=>(mem_new hn).elim (h.far n) fun e=>e ▸ Nat.le_succ_of_le (Nat.le_trans h.lo (Nat.le_of_lt (lt_of t1))),
    h.bare.imp fun v q=>attr_keep (attr_more q) keep_set (getOld tl) (.inl rfl),fun p m=>⟨K ((h.hold p m).2.2 t ht) (getOld (h.hold p m).1),(h.hold p m).2.1,fun n hn=>(mem_new hn).elim ((h.hold p m).2.2 n) fun e=>e ▸ ?_⟩⟩
  exact Nat.ne_of_lt (Nat.lt_of_lt_of_le (lt_of (h.hold p m).1) (Nat.le_trans (Nat.le_succ _) (Nat.le_add_right _ 2)))
theorem Bu.take (h:Bu H B r tb c [] N) {xs:List AV}:Bu H (B++[.list xs]) r tb c [(B.length,xs)] N:=by
  obtain ⟨k,w1,w2⟩:=h.wds
  have h':=h.more (X:=[.list xs])
  exact ⟨h'.pfx,h'.tr,h'.ht,h'.tbl,h'.wds,h'.lo,h'.far,h'.bare,fun p m=>by
    obtain rfl:=List.mem_singleton.mp m
    exact ⟨get_last,Nat.ne_of_gt (lt_of w1),fun n hn=>Nat.ne_of_gt (Nat.lt_of_le_of_lt (Nat.add_le_add_left (by decide) _) (h.ht.lt hn))⟩⟩
theorem Bu.drop (h:Bu H B r tb c L N):Bu H B r tb c [] N:=⟨h.pfx,h.tr,h.ht,h.tbl,h.wds,h.lo,h.far,h.bare,fun _ m=>nomatch m⟩
theorem Bu.up (h:Bu H B r tb c L N) (l:c≤c'):Bu H B r tb c' L N:=⟨h.pfx,h.tr,h.ht,h.tbl,h.wds.imp fun k q=>⟨q.1,Nat.le_trans q.2 l⟩,h.lo,h.far,h.bare,h.hold⟩
end
theorem evx_idx {c:Cx} {l:Loc} {H H1 H2:AHeap} {e1 e2:Expr} {pos:Pos} {v1:AV} {i:Nat} (h1:Ev c l H e1 v1 H1) (h2:EvX c l H1 e2 i H2):EvX c l H (.Subscript e1 e2 pos) i H2:=⟨_root_.Mine.evx_idx h1.run h2.run⟩
section
variable {g:Gx} {c:Cx} {n:Nat} {H1 B:AHeap} {i:Nat} {l:Loc} {elt e:Expr} {nm:Str} {np:Pos} {a:Int} {ps:List (Int × AV)} {t:Nd} {N:List Nd} {r x:Nat}
theorem ge_pairs (ha:(a != 0)=false) (hl:H1[i]? = some (.list (ps.map (·.2)))) (h20:ps.length≤20) (hk:c.k.scope.names.lookup nm=some .local) (he:∀ p∈ps,∀ as,Ev c (upd nm p.2 []) (H1++[.list as]) elt (.int p.1) (H1++[.list as])):∀ (qs:List (Int × AV)) (k:Nat) (as:List AV),ps.drop k=qs→as.length+qs.length≤20 →
    ∃ l',Ge c [] (H1++[.list as]) elt [⟨.Name nm np,e,[],a⟩] (.list i k) H1.length l' (H1++[.list (as++qs.map fun p=>.int p.1)]):=by
  intro qs
  induction qs with
  | nil =>
    intro k as h _
    refine ⟨[],?_⟩
    rw [List.map_nil,List.append_nil]
    exact ge_endE ha (end_list (getOld hl) (by rw [List.length_map];exact drop_n h))
  | cons q qs ih =>
    intro k as h hs
    have e:=drop_c h
    have hs':as.length≤1000:=Nat.le_trans (Nat.le_add_right _ _) (Nat.le_trans hs (by decide))
    refine (ih (k+1) (as++[.int q.1]) e.2 (by rw [List.length_append,Nat.add_assoc,Nat.add_comm [AV.int q.1].length];exact hs)).imp fun l' w=>?_
    rw [List.append_assoc] at w
    exact ge_putE (B:=H1) (Q:=[]) (Q':=[]) ha (turn_list (getOld hl) ((List.getElem?_map ..).trans (congrArg _ e.1)) go_name (as_name (sn_here hk))) fs_nil (he q (drop_m h) as) rfl hs' (ge_sub_loc (gr:=[]) sub_nil w)
noncomputable abbrev buK:K:=⟨dBush.scope,dBush.name ++ ".<locals>.",[],false,dBush.lam⟩
noncomputable abbrev buF:Stmt:=sAt dBush.body 2
noncomputable abbrev buG:Stmt:=sAt (whB buF) 1
noncomputable def tryB:Stmt→List Stmt | .Try b _ _ _ _=>b | _=>[]
noncomputable def subI:Expr→Expr | .Subscript _ i _=>i | _=>default
noncomputable abbrev buT:Stmt:=sAt (whB buG) 0
noncomputable abbrev buE:Expr:=argN (subI (asgV (sAt (tryB buT) 0))) 0
theorem bu_bends {d:Nat} {tag:Str} {es:List (Str × AV)} (h:NodeAt B d tag es) (hl:B[d+2]? = some (.list (ps.map (·.2)))) (hp:∀ p∈ps,BendAt B p.1 p.2) (hs:ps.length≤20) (l1:l.lookup ("at" : Str)=some (.ob (d+3))):Ev ⟨g,n,buK⟩ l B buE (.ob B.length) (B++[.list (ps.map fun p=>.int p.1)]):=by
  have hk:=h.kids_
  apply ev_openC
  · exact rfl
  apply ev_comp
  apply Exists.elim (ge_pairs (c:=⟨g,n,kC buK (compS buE) []⟩) (H1:=B) (a:=0) (nm:="kid") (elt:=compElt buE) rfl hl hs (by kernel_rfl) (fun p m as=>?_) ps 0 [] rfl (by rw [List.length_nil,Nat.zero_add];exact hs))
  · intro l' w
    apply lc_mk (it:=.list (d+2) 0)
    · exact rfl
    · exact ⟨by kernel_rfl,by kernel_rfl,by kernel_rfl⟩
    · rfl
    · exact fun _ _=>rfl
    · rfl
    · exact rfl
    · apply it_list
      · repeat clear Zg
      · exact hl
    · rfl
    · rfl
    · exact w
  · obtain ⟨d',tag',es',e1,e2,e3⟩:=hp p m
    have e2':=e2.more (X:=[.list as])
    have ha:=e2'.attrib_
    have hd:=e2'.dict
    rw [e1]
    apply ev_openS
    · exact rfl
    repeat clear Zg
end
noncomputable def hndB:Stmt→List Stmt | .Try _ (.ExceptHandler _ _ b _ :: _) _ _ _=>b | _=>[]
theorem first_of {β:Type} (x:Int):∀ ps:List (Int × β),(∃ (p:Nat) (u:β),ps[p]? = some (x,u)∧∀ j < p,∀ (y:Int) (v:β),ps[j]? = some (y,v)→y≠x)∨∀ (y:Int) (v:β),(y,v)∈ps→y≠x
  | []=>.inr fun _ _ m=>nomatch m
  | (k, v) :: r=>by
    by_cases e:k=x
    · exact .inl ⟨0,v,congrArg (fun k=>some (k,v)) e,fun _ h=>absurd h (Nat.not_lt_zero _)⟩
    · rcases first_of x r with ⟨p,u,h1,h2⟩ | h
      · refine .inl ⟨p+1,u,h1,fun j hj y w hw=>?_⟩
        cases j with
        | zero=>exact fun q=>e ((congrArg Prod.fst (Option.some.inj hw)).trans q)
        | succ j=>exact h2 j (Nat.lt_of_succ_lt_succ hj) y w hw
      · exact .inr fun y w m=>(List.mem_cons.mp m).elim (fun q c=>e ((congrArg Prod.fst q).symm.trans c)) (h y w)
noncomputable def AddJ (N:List Nd) (q:List Int) (N':List Nd):Prop:=(N'=N∧∃ m∈N,m.pre=q)∨∃ t,N'=N++[⟨t,q,0⟩]∧∀ m∈N,m.pre≠q
noncomputable abbrev bL (ci li ri:AV) (r tb:Nat) (k cu:AV) (t:Nat) (x:Int):Loc:=[("curves",ci),("left",li),("right",ri),("root",.ob (r+3)),("table",.ob tb),("words",.ob (tb+1)),("bare",.ob (tb+2)),("name",k),("curve",cu),("at",.ob (t+3)),("bend",.int x)]
noncomputable abbrev bLe (ci li ri:AV) (r tb:Nat) (k cu:AV) (t:Nat) (x:Int) (e:Nat):Loc:=[("curves",ci),("left",li),("right",ri),("root",.ob (r+3)),("table",.ob tb),("words",.ob (tb+1)),("bare",.ob (tb+2)),("name",k),("curve",cu),("at",.ob (t+3)),("bend",.int x),("error",.ob e)]
noncomputable abbrev buKh:K:=⟨dBush.scope,dBush.name ++ ".<locals>.",[],true,dBush.lam⟩
section
variable {g:Gx} {n:Nat} {H B:AHeap} {r tb c:Nat} {L:List (Nat × List AV)} {N:List Nd} {t:Nd} {x:Int} {ci li ri kk cu:AV} {l:Loc} {es:List (Str × AV)} {v:AV}
theorem try_found {ps:List (Int × AV)} {d p m:Nat} {tag:Str} (h:NodeAt B d tag es) (hl:B[d+2]? = some (.list (ps.map (·.2)))) (hp:∀ p∈ps,BendAt B p.1 p.2) (hs:ps.length≤20) (hx:ps[p]? = some (x,.ob (m+3))) (hlt:∀ j < p,∀ (y:Int) (v:AV),ps[j]? = some (y,v)→y≠x) :
    St ⟨g,n+1,buK⟩ (bL ci li ri r tb kk cu d x) B buT ⟨.next,bL ci li ri r tb kk cu m x,B++[.list (ps.map fun p=>.int p.1)]⟩:=by
  have hk:=h.kids_
  have gl:=getOld (E:=[.list (ps.map fun p=>.int p.1)]) hl
  have e1:(ps.map (·.2))[p]? = some (.ob (m+3)):=(List.getElem?_map ..).trans (congrArg _ hx)
  have hl':(ps.map (·.2)).length≤1000:=by rw [List.length_map];exact Nat.le_trans hs (by decide)
  have ix:Call g (n+1) false (B++[.list (ps.map fun p=>.int p.1)]) (.top 99) [.ob B.length,.int x] [] (.int (p:Nat)) (B++[.list (ps.map fun p=>.int p.1)]):=c_index get_last ((List.getElem?_map ..).trans (congrArg _ hx)) (same_as same_int (beq_self_eq_true x)) fun j u hj hu=>by
    obtain ⟨q,hq,rfl⟩:=Option.map_eq_some_iff.mp ((List.getElem?_map ..).symm.trans hu)
    exact same_as same_int (beq_eq_false_iff_ne.mpr (hlt j hj q.1 q.2 hq))
  apply st_openT
  · exact rfl
  apply st_try_ok
  repeat clear Zg
  · exact bu_bends h hl hp hs rfl
  repeat clear Zg
theorem try_b0 {e k:Nat} (w1:B[tb+1]? = some (.list (List.replicate k ixM))) (h2:B[e]? = some (.exc "sequence.index(x): x not in sequence")) (hk:k≤100) (l1:l.lookup ("words" : Str)=some (.ob (tb+1))) (l2:l.lookup ("error" : Str)=some (.ob e)) {st:Stmt}
    (hst:st=sAt (hndB buT) 0):St ⟨g,n,buKh⟩ l B st ⟨.next,l,B.set (tb+1) (.list (List.replicate k ixM++[ixM]))⟩:=by
  have hl:(List.replicate k ixM).length≤1000:=by rw [List.length_replicate];exact Nat.le_trans hk (by decide)
  rw [hst]
  repeat clear Zg
  · exact c_str h2
  repeat clear Zg
theorem put_bend (t2:es=[]∨∃ v:Int,es=[(("bend" : Str),AV.int v)]):putD "bend" (.int x) es=[(("bend" : Str),AV.int x)]∧es.length≤1000:=by
  rcases t2 with rfl | ⟨v,rfl⟩
  · exact ⟨rfl,Nat.zero_le _⟩
  · exact ⟨rfl,Nat.le_of_ble_eq_true rfl⟩
theorem try_b1 (t1:B[tb]? = some (.dict es)) (t2:es=[]∨∃ v:Int,es=[(("bend" : Str),AV.int v)]) (l1:l.lookup ("table" : Str)=some (.ob tb)) (l2:l.lookup ("bend" : Str)=some (.int x)) {st:Stmt}
    (hst:st=sAt (hndB buT) 1):St ⟨g,n,buKh⟩ l B st ⟨.next,l,B.set tb (.dict [("bend",.int x)])⟩:=by
  have e:=put_bend (x:=x) t2
  rw [hst,←e.1]
  apply st_openA
  · exact rfl
  apply st_assign
  · kernel_rfl
  · kernel_rfl
  · exact fun _ _=>rfl
  · repeat clear Zg
  · apply as_sub
    · repeat clear Zg
    · repeat clear Zg
    · exact s_dict t1 e.2
end
section
variable {g:Gx} {n:Nat} {H B:AHeap} {r tb c e:Nat} {L:List (Nat × List AV)} {N:List Nd} {t:Nd} {x:Int} {ci li ri kk cu:AV} {l:Loc} {es:List (Str × AV)} {v:AV}
theorem tag_joint {q:List Int} (hq:q.length < 2):tagOf (q++[x]) = "joint":=by
  unfold tagOf
  rw [List.length_append]
  exact (if_neg (Nat.succ_ne_zero _)).trans (if_neg (Nat.ne_of_lt (Nat.succ_lt_succ hq)))
theorem try_b2 (h:Bu H B r tb c L N) (ht:t∈allN r N) (hq:t.pre.length < 2) (hN:N.length≤20) (g1:B[tb]? = some (.dict [("bend",.int x)])) (hno:∀ m∈N,m.pre≠t.pre++[x]):∃ B' d,Bu H B' r tb c L (N++[⟨d,t.pre++[x],0⟩]) ∧
    St ⟨g,n+5,buKh⟩ (bLe ci li ri r tb kk cu t.id x e) B (sAt (hndB buT) 2) ⟨.next,bLe ci li ri r tb kk cu d x e,B'⟩:=by
  obtain ⟨es,w⟩:=h.ht.node t ht
  have hl:=h.ht.kids t ht (Nat.lt_succ_of_lt hq)
  have a:=h.add (nm:=0) (b:=x) (es:=[("bend",.int x)]) (kws:=[]) ht (Nat.lt_succ_of_lt hq) rfl (fun q=>by rw [List.length_append] at q;exact absurd (Nat.succ.inj q) (Nat.ne_of_lt hq)) fun _ m hm=>(List.mem_cons.mp hm).elim (fun q=>by rw [q];exact fun c=>List.append_ne_nil_of_right_ne_nil _ (List.cons_ne_nil _ _) c.symm) (hno m)
  rw [tag_joint hq] at a
  have sc:=c_sub0 (g:=g) (n:=n) (hd:=true) (tag':="joint") (b:=x) w.at_ hl (Nat.le_trans kidsA_len hN) kidsA_srt (h.ht.bends t.pre) g1 (Nat.le_of_ble_eq_true rfl) rfl
  refine ⟨_,_,a,st_as (l1:=upd "at" (.ob (B.length+1+3)) (bLe ci li ri r tb kk cu t.id x e)) ?_ rfl rfl⟩
  apply st_openA
  · exact rfl
  apply st_assign
  · kernel_rfl
  · kernel_rfl
  · exact fun _ _=>rfl
  · apply ev_call (fun _ _=>rfl) (fun _ _=>⟨rfl,rfl,rfl⟩)
    · repeat clear Zg
    · repeat clear Zg
    · repeat clear Zg
    · repeat clear Zg
    · exact sc
  · apply as_name
    exact sn_here (by kernel_rfl)
theorem bu_try (h:Bu H B r tb c L N) (ht:t∈allN r N) (hq:t.pre.length < 2) (hN:N.length≤20) (hc:c≤50):∃ B' N' t',Bu H B' r tb (c+1) L N'∧t'∈allN r N'∧t'.pre=t.pre++[x]∧AddJ N (t.pre++[x]) N' ∧
    St ⟨g,n+5,buK⟩ (bL ci li ri r tb kk cu t.id x) B buT ⟨.next,bL ci li ri r tb kk cu t'.id x,B'⟩:=by
  obtain ⟨es,w⟩:=h.ht.node t ht
  have hl:=h.ht.kids t ht (Nat.lt_succ_of_lt hq)
  have hs:=Nat.le_trans (kidsA_len (N:=N) (q:=t.pre)) hN
  have bd:=h.ht.bends t.pre
  rcases first_of x (kidsA N t.pre) with ⟨p,u,hp,hlt⟩ | hno
  · obtain ⟨m,hm,hk,e⟩:=kidsA_mem (List.mem_of_getElem? hp)
    have e1:x=m.last:=congrArg Prod.fst e
    have e2:u = .ob (m.id+3):=congrArg Prod.snd e
    subst e2
    have hpre:m.pre=t.pre++[x]:=by rw [e1];exact isKid_iff.mp hk
    exact ⟨_,N,m,h.more.up (Nat.le_succ c),.tail _ hm,hpre,.inl ⟨rfl,m,hm,hpre⟩,try_found (n:=n+4) w.at_ hl bd hs hp hlt⟩
  · have hno':∀ m∈N,m.pre≠t.pre++[x]:=fun m hm q=>by
      have la:m.last=x:=by unfold Nd.last;rw [q];exact List.getLastD_concat
      exact hno _ _ (kidsA_of hm (isKid_iff.mpr (q.trans (by rw [la])))) la
    have h2:=(h.more (X:=[.list ((kidsA N t.pre).map fun p=>.int p.1)])).more (X:=[.exc "sequence.index(x): x not in sequence"])
    have bb:=bu_bends (g:=g) (n:=n+5) (l:=bL ci li ri r tb kk cu t.id x) w.at_ hl bd hs rfl
    have ix:CallX g (n+5) false (B++[.list ((kidsA N t.pre).map fun p=>.int p.1)]) (.top 99) [.ob B.length,.int x] [] (B++[AObj.list ((kidsA N t.pre).map fun p=>.int p.1)]).length (B++[.list ((kidsA N t.pre).map fun p=>.int p.1)]++[.exc "sequence.index(x): x not in sequence"]):=
      x_index get_last fun v hv=>(List.mem_map.mp hv).elim fun p hp=>hp.2 ▸ same_as same_int (beq_eq_false_iff_ne.mpr (hno p.1 p.2 hp.1))
    have hk:=w.at_.kids_
    obtain ⟨k,w1,w2⟩:=h2.wds
    have e0:=try_b0 (g:=g) (n:=n+5) (l:=bLe ci li ri r tb kk cu t.id x (B++[AObj.list ((kidsA N t.pre).map fun p=>.int p.1)]).length) w1 get_last (Nat.le_trans w2 (Nat.le_trans hc (by decide))) rfl rfl rfl
    have h3:=h2.words w1 w2
    obtain ⟨es3,t1,t2⟩:=h3.tbl
    have e1:=try_b1 (g:=g) (n:=n+5) (x:=x) (l:=bLe ci li ri r tb kk cu t.id x (B++[AObj.list ((kidsA N t.pre).map fun p=>.int p.1)]).length) t1 t2 rfl rfl rfl
    obtain ⟨h4,g4⟩:=h3.table x
    obtain ⟨B',d,h5,e2⟩:=try_b2 (g:=g) (n:=n) (ci:=ci) (li:=li) (ri:=ri) (kk:=kk) (cu:=cu) (e:=(B++[AObj.list ((kidsA N t.pre).map fun p=>.int p.1)]).length) h4 ht hq hN g4 hno'
    refine ⟨B',_,_,h5,mem_u,rfl,.inr ⟨d,rfl,hno'⟩,st_as (l1:=(bLe ci li ri r tb kk cu d x (B++[AObj.list ((kidsA N t.pre).map fun p=>.int p.1)]).length).filter fun p=>p.1 != "error") ?_ rfl rfl⟩
    apply st_openT
    · exact rfl
    apply st_try
    · kernel_rfl
    · kernel_rfl
    · apply ex_exc
      apply st_openA
      · exact rfl
      apply stx_assign
      · kernel_rfl
      apply evx_idx
      · repeat clear Zg
      · apply evx_call (fun _ _=>rfl) (fun _ _=>⟨rfl,rfl,rfl⟩)
        · repeat clear Zg
        · apply es_cons
          · exact bb
          repeat clear Zg
        · repeat clear Zg
        · repeat clear Zg
        · exact ix
    · exact ex_cons e0 (ex_cons e1 (ex_cons e2 ex_nil))
end
theorem AddJ.len {N N':List Nd} {q:List Int} (h:AddJ N q N'):N'.length≤N.length+1:=h.elim (fun h=>h.1 ▸ Nat.le_succ _) fun h=>h.elim fun t h=>h.1 ▸ Nat.le_of_eq List.length_append
noncomputable abbrev buL (ci li ri:AV) (r tb:Nat):Loc:=[("curves",ci),("left",li),("right",ri),("root",.ob (r+3)),("table",.ob tb),("words",.ob (tb+1)),("bare",.ob (tb+2))]
noncomputable abbrev b1L (ci li ri:AV) (r tb:Nat) (k cu:AV):Loc:=[("curves",ci),("left",li),("right",ri),("root",.ob (r+3)),("table",.ob tb),("words",.ob (tb+1)),("bare",.ob (tb+2)),("name",k),("curve",cu)]
noncomputable abbrev b0L (ci li ri:AV) (r tb:Nat) (k cu:AV):Loc:=[("curves",ci),("left",li),("right",ri),("root",.ob (r+3)),("table",.ob tb),("words",.ob (tb+1)),("bare",.ob (tb+2)),("name",k),("curve",cu),("at",.ob (r+3))]
section
variable {g:Gx} {n:Nat} {H B:AHeap} {r tb c e ck k:Nat} {L:List (Nat × List AV)} {N:List Nd} {t:Nd} {x y z:Int} {ci li ri kk cu:AV} {l:Loc} {es:List (Str × AV)} {v:AV}
theorem bodyG:whB buG=[buT]:=by kernel_rfl
theorem bu_two (h:Bu H B r tb c [] N) (hN:N.length≤18) (hc:c≤40) (hck:B[ck]? = some (.list [.int x,.int y,.int z])):∃ B' N1 N2 t L',AddJ N [x] N1∧AddJ N1 [x,y] N2∧Bu H B' r tb (c+2) L' N2∧t∈allN r N2∧t.pre=[x,y] ∧
    St ⟨g,n+5,buK⟩ (b0L ci li ri r tb kk (.ob ck)) B buG ⟨.next,bL ci li ri r tb kk (.ob ck) t.id y,B'⟩:=by
  have h0:=h.take (xs:=[.int x,.int y])
  have s0:=(h0.hold _ (.head _)).1
  obtain ⟨B1,N1,t1,h1,m1,p1,j1,e1⟩:=bu_try (g:=g) (n:=n) (x:=x) (ci:=ci) (li:=li) (ri:=ri) (kk:=kk) (cu:=.ob ck) h0 (.head _) (Nat.le_of_ble_eq_true rfl) (Nat.le_trans hN (by decide)) (Nat.le_trans hc (by decide))
  have s1:=(h1.hold _ (.head _)).1
  have q1:t1.pre.length < 2:=by rw [p1];exact Nat.le_of_ble_eq_true rfl
  obtain ⟨B2,N2,t2,h2,m2,p2,j2,e2⟩:=bu_try (g:=g) (n:=n) (x:=y) (ci:=ci) (li:=li) (ri:=ri) (kk:=kk) (cu:=.ob ck) h1 m1 q1 (Nat.le_trans j1.len (Nat.le_trans (Nat.succ_le_succ hN) (by decide))) (Nat.succ_le_succ (Nat.le_trans hc (by decide)))
  have s2:=(h2.hold _ (.head _)).1
  rw [p1] at p2 j2
  refine ⟨B2,N1,N2,t2,_,j1,j2,h2,m2,p2,?_⟩
  apply st_openF
  · exact rfl
  apply st_for
  · exact fun _ _=>rfl
  · rfl
  · apply it_list
    · apply ev_slH (k:=2)
      · repeat clear Zg
      · exact ev_int
      · exact .inl hck
      · exact Nat.le_of_ble_eq_true rfl
    · exact get_last
  apply fr_step
  · apply turn_list s0 rfl
    · clear Zg
    · repeat clear Zg
  · exact ex_as bodyG (ex_cons e1 ex_nil)
  apply fr_step
  · apply turn_list s1 rfl
    · clear Zg
    · repeat clear Zg
  · exact ex_as bodyG (ex_cons e2 ex_nil)
  exact fr_end (end_list s2 (Nat.le_refl _)) ex_nil
theorem bu_nine (t1:B[tb]? = some (.dict es)) (t2:es=[]∨∃ v:Int,es=[(("bend" : Str),AV.int v)]) (l1:l.lookup ("table" : Str)=some (.ob tb)):St ⟨g,n,buK⟩ l B (sAt (whB buF) 2) ⟨.next,l,B.set tb (.dict [("bend",.int 9)])⟩:=by
  have e:=put_bend (x:=9) t2
  rw [←e.1]
  apply st_openA
  · exact rfl
  apply st_assign
  · kernel_rfl
  · kernel_rfl
  · exact fun _ _=>rfl
  · repeat clear Zg
  · apply as_sub
    · repeat clear Zg
    · repeat clear Zg
    · exact s_dict t1 e.2
theorem bu_leaf (h:Bu H B r tb c L N) (ht:t∈allN r N) (hp:t.pre=[x,y]) (hN:N.length≤20) (g1:B[tb]? = some (.dict [("bend",.int 9)])) (hck:B[ck]? = some (.list [.int x,.int y,.int z])):∃ B' d,Bu H B' r tb c L (N++[⟨d,[x,y,z],k⟩])∧B'[tb]? = some (.dict [("bend",.int 9)]) ∧
    St ⟨g,n+5,buK⟩ (bL ci li ri r tb (.int (k:Nat)) (.ob ck) t.id y) B (sAt (whB buF) 3) ⟨.next,bL ci li ri r tb (.int (k:Nat)) (.ob ck) t.id y,B'⟩:=by
  obtain ⟨es,w⟩:=h.ht.node t ht
  have hq:t.pre.length < 3:=by rw [hp];exact Nat.le_of_ble_eq_true rfl
  have hl:=h.ht.kids t ht hq
  have a:=h.add (nm:=k) (b:=z) (es:=[("bend",.int 9)]) (kws:=[("bend",.int z),("name",.int (k:Nat))]) ht hq rfl (fun _=>rfl) fun q=>by rw [hp] at q;exact absurd q (Nat.lt_irrefl 3)
  have sc:=c_sub2 (g:=g) (n:=n) (hd:=false) (tag':="curve") (b:=z) (v:=.int z) (w:=.int (k:Nat)) w.at_ hl (Nat.le_trans kidsA_len hN) kidsA_srt (h.ht.bends t.pre) g1 (Nat.le_of_ble_eq_true rfl) rfl
  rw [hp,show tagOf ([x,y]++[z]) = "curve" from rfl] at a
  rw [hp] at hl sc
  refine ⟨_,_,a,(List.getElem?_set_ne (ne_obj g1 hl rfl).symm).trans (getOld g1),?_⟩
  apply st_openE
  · exact rfl
  apply st_expr
  · exact fun _ _=>rfl
  apply ev_call (fun _ _=>rfl) (fun _ _=>⟨rfl,rfl,rfl⟩)
  · repeat clear Zg
  · repeat clear Zg
  · repeat clear Zg
  · repeat clear Zg
  · exact sc
theorem bodyBF:whB buF=[sAt (whB buF) 0,buG,sAt (whB buF) 2,sAt (whB buF) 3]:=by kernel_rfl
theorem bu_body (h:Bu H B r tb c [] N) (hN:N.length≤18) (hc:c≤40) (hck:H[ck]? = some (.list [.int x,.int y,.int z])):∃ B' N1 N2 d t,AddJ N [x] N1∧AddJ N1 [x,y] N2∧Bu H B' r tb (c+2) [] (N2++[⟨d,[x,y,z],k⟩])∧B'[tb]? = some (.dict [("bend",.int 9)])∧t∈allN r N2 ∧
    Ex ⟨g,n+5,buK⟩ (b1L ci li ri r tb (.int (k:Nat)) (.ob ck)) B (whB buF) ⟨.next,bL ci li ri r tb (.int (k:Nat)) (.ob ck) t.id y,B'⟩:=by
  obtain ⟨B1,N1,N2,t,L',j1,j2,h1,m1,p1,e1⟩:=bu_two (g:=g) (n:=n) (ci:=ci) (li:=li) (ri:=ri) (kk:=.int (k:Nat)) h hN hc (h.old hck)
  obtain ⟨es,t1,t2⟩:=h1.tbl
  have e2:=bu_nine (g:=g) (n:=n+5) (l:=bL ci li ri r tb (.int (k:Nat)) (.ob ck) t.id y) t1 t2 rfl
  obtain ⟨h2,g2⟩:=h1.table 9
  obtain ⟨B3,d,h3,g3,e3⟩:=bu_leaf (g:=g) (n:=n) (k:=k) (ci:=ci) (li:=li) (ri:=ri) h2 m1 p1 (Nat.le_trans j2.len (Nat.le_trans (Nat.succ_le_succ j1.len) (Nat.le_trans (Nat.add_le_add_right hN 2) (by decide)))) g2 (h2.old hck)
  refine ⟨B3,N1,N2,d,t,j1,j2,h3.drop,g3,m1,?_⟩
  apply ex_as bodyBF
  apply ex_cons
  · repeat clear Zg
  exact ex_cons e1 (ex_cons e2 (ex_cons e3 ex_nil))
end
theorem three {α:Type} {l:List α} (h:l.length=3):∃ a b c,l=[a,b,c]:=by
  match l,h with
  | [a,b,c],_=>exact ⟨a,b,c,rfl⟩
structure Inv (N:List Nd) (cs:List (List Int)) (k:Nat):Prop where
  has:∀ (j:Nat) c,j < k→cs[j]? = some c→(∃ n∈N,n.pre=c.take 1)∧(∃ n∈N,n.pre=c.take 2)∧∃ n∈N,n.pre=c∧n.name=j
  of:∀ n∈N,∃ j c,j < k∧cs[j]? = some c∧∃ i,1≤i∧i≤3∧n.pre=c.take i∧(i=3→n.name=j)
  names:(N.filter fun n=>n.pre.length == 3).map (·.name)=List.range k
section
variable {N N' N1 N2:List Nd} {q:List Int} {cs:List (List Int)} {k u:Nat} {x y z:Int}
theorem AddJ.sub (h:AddJ N q N'):∀ n∈N,n∈N':=fun n hn=>h.elim (fun h=>h.1 ▸ hn) fun h=>h.elim fun t h=>h.1 ▸ List.mem_append_left _ hn
theorem AddJ.got (h:AddJ N q N'):∃ n∈N',n.pre=q:=h.elim (fun h=>h.1 ▸ h.2) fun h=>h.elim fun t h=>h.1 ▸ ⟨_,List.mem_append_right _ (.head _),rfl⟩
theorem AddJ.back (h:AddJ N q N'):∀ n∈N',n∈N∨n.pre=q:=fun n hn=>h.elim (fun h=>.inl (h.1 ▸ hn)) fun h=>h.elim fun t h=>(List.mem_append.mp (h.1 ▸ hn)).imp id fun a=>by rw [List.mem_singleton.mp a]
theorem AddJ.names (h:AddJ N q N') (hq:(q.length == 3)=false):(N'.filter fun n=>n.pre.length == 3)=N.filter fun n=>n.pre.length == 3:=h.elim (fun h=>by rw [h.1]) fun h=>h.elim fun t h=>by
  rw [h.1,List.filter_append,List.filter_cons_of_neg (p:=fun n:Nd=>n.pre.length == 3) (ne_true_of_eq_false hq),List.filter_nil,List.append_nil]
theorem Inv.next (h:Inv N cs k) (j1:AddJ N [x] N1) (j2:AddJ N1 [x,y] N2) (hk:cs[k]? = some [x,y,z]):Inv (N2++[⟨u,[x,y,z],k⟩]) cs (k+1):=by
  refine ⟨fun j c hj hc=>?_,fun n hn=>?_,?_⟩
  · have up:∀ n,n∈N→n∈N2++[⟨u,[x,y,z],k⟩]:=fun n hn=>List.mem_append_left _ (j2.sub _ (j1.sub _ hn))
    by_cases e:j=k
    · subst e
      obtain rfl:[x,y,z]=c:=Option.some.inj (hk.symm.trans hc)
      obtain ⟨n1,a1,b1⟩:=j1.got
      obtain ⟨n2,a2,b2⟩:=j2.got
      exact ⟨⟨n1,List.mem_append_left _ (j2.sub _ a1),b1⟩,⟨n2,List.mem_append_left _ a2,b2⟩,⟨_,List.mem_append_right _ (.head _),rfl,rfl⟩⟩
    · obtain ⟨⟨n1,a1,b1⟩,⟨n2,a2,b2⟩,⟨n3,a3,b3,d3⟩⟩:=h.has j c (Nat.lt_of_le_of_ne (Nat.le_of_lt_succ hj) e) hc
      exact ⟨⟨n1,up _ a1,b1⟩,⟨n2,up _ a2,b2⟩,⟨n3,up _ a3,b3,d3⟩⟩
  · have k1:=Nat.lt_succ_self k
    rcases List.mem_append.mp hn with a | a
    · rcases j2.back n a with a | a
      · rcases j1.back n a with a | a
        · exact (h.of n a).imp fun j q=>q.imp fun c q=>⟨Nat.lt_succ_of_lt q.1,q.2⟩
        · exact ⟨k,_,k1,hk,1,by decide,by decide,a,fun e=>absurd e (by decide)⟩
      · exact ⟨k,_,k1,hk,2,by decide,by decide,a,fun e=>absurd e (by decide)⟩
    · rw [List.mem_singleton.mp a]
      exact ⟨k,_,k1,hk,3,by decide,by decide,rfl,fun _=>rfl⟩
  · rw [List.filter_append,j2.names rfl,j1.names rfl,List.map_append,h.names,List.range_succ]
    rfl
theorem Inv.nil:Inv [] cs 0:=⟨fun j c h=>absurd h (Nat.not_lt_zero _),fun _ m=>(nomatch m),rfl⟩
end
structure BuS (H B:AHeap) (r tb k:Nat) (cs:List (List Int)) (N:List Nd) (M:Loc):Prop where
  bu:Bu H B r tb (2 * k) [] N
  inv:Inv N cs k
  len:N.length≤3 * k
  last:0 < k→B[tb]? = some (.dict [("bend",.int 9)])∧∃ a b t d,M=[(("name" : Str),a),("curve",b),("at",.ob (t+3)),("bend",d)]∧∃ n∈allN r N,n.id=t
section
variable {g:Gx} {n:Nat} {H B:AHeap} {r tb ci:Nat} {N:List Nd} {cs:List (List Int)} {cids:List Nat} {li ri:AV} {M:Loc}
theorem bu_loop (h1:H[ci]? = some (.list (cids.map .ob))) (c5:cids.length=5) (s5:cs.length=5) (cc:∀ (k:Nat) c i,cs[k]? = some c→cids[k]? = some i→H[i]? = some (.list (c.map .int))∧c.length=3):∀ (s k:Nat) (B:AHeap) (N:List Nd) (M:Loc),k+s=5→BuS H B r tb k cs N M→∃ B' N' M',BuS H B' r tb 5 cs N' M' ∧
    Fr ⟨g,n+5,buK⟩ (buL (.ob ci) li ri r tb++M) B (forT buF) (.enum ci k) (whB buF) (forO buF) ⟨.next,buL (.ob ci) li ri r tb++M',B'⟩:=by
  intro s
  induction s with
  | zero =>
    intro k B N M e h
    obtain rfl:k=5:=e
    exact ⟨B,N,M,h,fr_end (end_enum (h.bu.old h1) (by rw [List.length_map,c5];exact Nat.le_refl _)) ex_nil⟩
  | succ s ih =>
    intro k B N M e h
    have k5:k < 5:=Nat.lt_of_lt_of_eq (Nat.lt_add_of_pos_right (Nat.succ_pos s)) e
    have ec:=List.getElem?_eq_getElem (s5.symm ▸ k5)
    have ei:=List.getElem?_eq_getElem (c5.symm ▸ k5)
    obtain ⟨g1,g2⟩:=cc k _ _ ec ei
    obtain ⟨x,y,z,e3⟩:=three g2
    rw [e3] at g1 ec
    obtain ⟨B',N1,N2,d,t,j1,j2,b,d9,m1,w⟩:=bu_body (g:=g) (n:=n) (k:=k) (ci:=.ob ci) (li:=li) (ri:=ri) h.bu (Nat.le_trans h.len (by omega)) (by omega) g1
    have hl:(N2++[(⟨d,[x,y,z],k⟩:Nd)]).length≤3 * (k+1):=by
      have a1:=j1.len;have a2:=j2.len;have a3:=h.len
      rw [List.length_append];show _+1≤_;omega
    obtain ⟨B5,N5,M5,s5',q⟩:=ih (k+1) B' (N2++[⟨d,[x,y,z],k⟩]) _ ((Nat.succ_add_eq_add_succ k s).trans e) ⟨b,h.inv.next j1 j2 ec,hl,fun _=>⟨d9,_,_,t.id,_,rfl,t,mem_old m1,rfl⟩⟩
    refine ⟨B5,N5,M5,s5',fr_sub (sub_app (buL (.ob ci) li ri r tb) M) ?_⟩
    apply fr_step
    · apply turn_enum (h.bu.old h1) ((List.getElem?_map ..).trans (congrArg _ ei))
      repeat clear Zg
    · exact w
    · exact q
end
structure RdOk (g:Gx) (n:Nat) (B:AHeap) (d level:Nat) (turned:Bool) (row:List Nat):Prop where
  len:row.length≤20
  call:∀ X,∃ Y id,Call g n false (B++X) (.top 151) [.ob (d+3),.int (level:Nat),.bool turned] [] (.ob id) (B++X++Y)∧(B++X++Y)[id]? = some (.list (natsA row))
noncomputable abbrev rdK:K:=⟨dRead.scope,dRead.name ++ ".<locals>.",[],false,dRead.lam⟩
noncomputable abbrev rdF:Stmt:=sAt dRead.body 2
noncomputable abbrev rdL (d level:Nat) (turned:Bool) (row:List Int) (told:Nat):Loc:=[("thing",.ob (d+3)),("level",.int (level:Nat)),("turned",.bool turned),("told",.ob told),("row",.bytes row)]
section
variable {g:Gx} {n:Nat} {B X:AHeap} {d level name:Nat} {turned:Bool} {es:List (Str × AV)} {tag:Str} {kids:List AV} {row:List Int} {rows:Nat→List Nat} {c:Cx} {H:AHeap} {l:Loc} {e1 e2:Expr} {b1 b2:Bool}
theorem rd_leaf (h:NodeAt B d "curve" es) (hn:es.lookup ("name" : Str)=some (.int (name:Nat))):RdOk g (n+1) B d level turned [name]:=by
  refine ⟨Nat.le_of_ble_eq_true rfl,fun X=>?_⟩
  have hX:=h.more (X:=X)
  have a1:=hX.tag_
  have a2:=hX.attrib_
  have a3:=hX.dict
  refine ⟨[.list [.int (name:Nat)]],(B++X).length,?_,get_last⟩
  apply call0 (d:=dRead) (in_tab 18 rfl) (by kernel_rfl) (bd_3 (n1:="thing") (n2:="level") (n3:="turned") (in_tab 18 rfl) (by kernel_rfl) (by decide +kernel) (fun _ _ _ _ _ _ _ _=>by kernel_rfl)) (by kernel_rfl)
  apply ex_ret
  apply st_openI
  · exact rfl
  apply st_t
  · repeat clear Zg
  · kernel_rfl
  apply ex_ret
  apply st_ret
  apply ev_list
  · exact fun _ _=>rfl
  · repeat clear Zg
  · exact Nat.le_of_ble_eq_true rfl
theorem al_and2 (h1:Ts c l H e1 b1 H) (h2:Ts c l H e2 b2 H):Al c l H .And [e1,e2] (b1 && b2) H:=by
  cases b1 with
  | false=>exact al_stop rfl h1
  | true =>
    refine al_go (q:=true) rfl h1 ?_
    cases b2 with
    | false=>exact al_stop rfl h2
    | true=>exact al_go (q:=true) rfl h2 al_nil
theorem rd_loop (h:NodeAt B d tag es) (hk:B[d+2]? = some (.list kids)) (kl:kids.length≤20) (hkid:∀ p,p < kids.length→∃ d',kids[p]? = some (.ob (d'+3))∧RdOk g (n+1) B d' (level+1) turned (rows p)):∀ (ps acc:List Nat) (told:Nat) (X:AHeap),(∀ p∈ps,p < kids.length)→acc.length+20 * ps.length≤900→(B++X)[told]? = some (.list (natsA acc))→∃ Y told',(B++X++Y)[told']? = some (.list (natsA (acc++ps.flatMap rows))) ∧
    Fr ⟨g,n+1,rdK⟩ (rdL d level turned row told) (B++X) (forT rdF) (.bytes (intZ ps)) (whB rdF) (forO rdF) ⟨.next,rdL d level turned row told',B++X++Y⟩:=by
  intro ps
  induction ps with
  | nil =>
    intro acc told X _ _ h3
    refine ⟨[],told,?_,?_⟩
    · rw [List.append_nil,List.flatMap_nil,List.append_nil];exact h3
    · rw [List.append_nil]
      exact fr_end end_bytes ex_nil
  | cons p r ih =>
    intro acc told X h1 h2 h3
    have pl:=h1 p (.head _)
    obtain ⟨v,hv,hr⟩:=hkid p pl
    obtain ⟨Y1,id,e1,e2⟩:=hr.call X
    have hX:=(h.more (X:=X)).kids_
    have gk:=getOld (E:=X) hk
    have kl':kids.length≤1000:=Nat.le_trans kl (by decide)
    have l0:=hr.len
    have hn:natsA acc++natsA (rows p)=natsA (acc++rows p):=List.map_append.symm
    have l1:acc.length+(rows p).length+20 * r.length≤900:=by rw [List.length_cons] at h2;omega
    have l2:(natsA acc++natsA (rows p)).length≤1000:=by rw [hn,natsA,List.length_map,List.length_append];omega
    have e3:Call g (n+1) false (B++X++Y1) (.top 85) [.ob told,.ob id] [] (.ob (B++X++Y1).length) (B++X++Y1++[.list (natsA acc++natsA (rows p))]):=c_concat (getOld h3) e2 l2
    rw [hn] at e3
    have ap:B++(X++Y1++[.list (natsA (acc++rows p))])=B++X++Y1++[.list (natsA (acc++rows p))]:=by rw [←List.append_assoc,←List.append_assoc]
    obtain ⟨Y2,told',e4,w⟩:=ih (acc++rows p) (B++X++Y1).length (X++Y1++[.list (natsA (acc++rows p))]) (fun q m=>h1 q (.tail _ m)) (by rw [List.length_append];exact l1) (by rw [ap];exact get_last)
    have ap2:B++X++(Y1++[.list (natsA (acc++rows p))]++Y2)=B++X++Y1++[.list (natsA (acc++rows p))]++Y2:=by rw [←List.append_assoc,←List.append_assoc]
    rw [ap] at e4 w
    refine ⟨Y1++[.list (natsA (acc++rows p))]++Y2,told',?_,?_⟩
    · rw [List.flatMap_cons,←List.append_assoc acc,ap2];exact e4
    · rw [ap2]
      apply fr_step
      · apply turn_bytes go_name
        repeat clear Zg
      · repeat clear Zg
      · exact fr_sub (sub_app (rdL d level turned row (B++X++Y1).length) [("place",.int (p:Nat))]) w
end
noncomputable def orderF (turned:Bool) (level m:Nat):List Nat:=if (turned && level % 2 == 1)=true then (List.range m).reverse else List.range m
theorem swap_rev:∀ m,m < 16→blks (intZ (List.range m)) m 1 0 (List.replicate m 0)=intZ (List.range m).reverse:=by decide +kernel
section
variable {g:Gx} {n:Nat} {B X:AHeap} {d level name m:Nat} {turned:Bool} {es:List (Str × AV)} {tag:Str} {kids:List AV} {row:List Int} {rows:Nat→List Nat} {l:Loc}
theorem rd_places (h:NodeAt B d tag es) (hk:B[d+2]? = some (.list kids)) (k15:kids.length≤15) (l1:l.lookup ("thing" : Str)=some (.ob (d+3))):Ev ⟨g,n,rdK⟩ l B (argN (eltN (asgV (sAt dRead.body 1)) 0) 0) (.ob B.length) (B++[.list (natsA (List.range kids.length))]):=by
  have hk1:=h.kids_
  have kl:kids.length < 1000:=Nat.lt_of_le_of_lt k15 (by decide)
  have e:(((List.range' 0 kids.length).map fun j:Nat=>AV.int j).filter fun _=>true).map id=natsA (List.range kids.length):=by
    rw [List.filter_eq_self.mpr (fun _ _=>rfl),List.map_id,natsA,List.range_eq_range']
  apply ev_openC
  · exact rfl
  apply ev_comp
  rw [←e]
  apply lc_x (st:=fun v=>upd "place" v [])
  · rfl
  · exact ⟨by kernel_rfl,by kernel_rfl,by kernel_rfl⟩
  · exact fun _ _=>rfl
  · rfl
  · exact rfl
  · apply it_r1 (b:=((kids.length:Nat):Int)) (r:=kids.length) (fun _ _=>rfl) (by kernel_rfl)
    · repeat clear Zg
    · exact ⟨⟨by decide,by decide⟩,Int.natCast_nonneg _,Int.ofNat_lt.mpr kl⟩
    · unfold rangeN;split <;> omega
  · rfl
  · exact Yl.range go_name kids.length 0
  · rw [List.length_map,List.length_range'];exact Nat.le_of_lt kl
  · intro v _ as
    repeat clear Zg
  · intro v _ as
    exact fs_nil
  · intro v _ _ as
    apply ev_openN
    · exact rfl
    · exact ev_loc (by kernel_rfl) rfl
theorem rd_st1 (h:NodeAt B d tag es) (hk:B[d+2]? = some (.list kids)) (k15:kids.length≤15) (X:AHeap):∃ Y told,(B++X++Y)[told]? = some (.list (natsA [])) ∧
    St ⟨g,n,rdK⟩ [("thing",.ob (d+3)),("level",.int (level:Nat)),("turned",.bool turned)] (B++X) (sAt dRead.body 1) ⟨.next,rdL d level turned (intZ (List.range kids.length)) told,B++X++Y⟩:=by
  have p:=rd_places (g:=g) (n:=n) (B:=B++X) (l:=[("thing",.ob (d+3)),("level",.int (level:Nat)),("turned",.bool turned)]) h.more (getOld hk) k15 rfl
  have e:natsA (List.range kids.length)=(intZ (List.range kids.length)).map .int:=by rw [List.map_map];rfl
  have bt:Call g n false (B++X++[.list (natsA (List.range kids.length))]) (.ty "bytes") [.ob (B++X).length] [] (.bytes (intZ (List.range kids.length))) (B++X++[.list (natsA (List.range kids.length))]):=by
    apply c_bytes
    · rw [e];exact get_last
    · rw [List.length_map,List.length_range];exact Nat.le_trans k15 (by decide)
    · exact fun y m=>(List.mem_map.mp m).elim fun k q=>q.2 ▸ ⟨Int.natCast_nonneg _,Int.ofNat_lt.mpr (Nat.lt_trans (List.mem_range.mp q.1) (Nat.lt_of_le_of_lt k15 (by decide)))⟩
  refine ⟨[.list (natsA (List.range kids.length))]++[.list []]++[.tup [.bytes (intZ (List.range kids.length)),.ob ((B++X).length+1)]],(B++X).length+1,getK rfl,?_⟩
  apply st_as
  · repeat clear Zg
    · exact p
    repeat clear Zg
  · exact rfl
  · exact rfl
theorem nat_beq1 {a:Nat}:((a:Int) == 1)=(a == 1):=Bool.eq_iff_iff.mpr ⟨fun h=>beq_iff_eq.mpr (Int.ofNat_inj.mp (beq_iff_eq.mp h)),fun h=>by rw [beq_iff_eq.mp h];rfl⟩
theorem rd_iter {H:AHeap} {told:Nat} (k1:1≤kids.length) (k15:kids.length≤15):∃ Y,It ⟨g,n+1,rdK⟩ (rdL d level turned (intZ (List.range kids.length)) told) H (forI rdF) (.bytes (intZ (orderF turned level kids.length))) (H++Y):=by
  have rl:(intZ (List.range kids.length)).length=kids.length:=by rw [List.length_map,List.length_range]
  have k100:(intZ (List.range kids.length)).length < 100:=rl.symm ▸ Nat.lt_of_le_of_lt k15 (by decide)
  have lb:Call g (n+1) false H (.bi "len") [.bytes (intZ (List.range kids.length))] [] (.int (kids.length:Nat)) H:=call_cast (c_lenb (Nat.lt_trans k100 (by decide))) (congrArg (fun k:Nat=>AV.int k) rl) rfl
  have sw:Call g (n+1) false H (.top 106) [.bytes (intZ (List.range kids.length)),.int (kids.length:Nat)] [] (.bytes (intZ (List.range kids.length).reverse)) (H++[.barr (blks (intZ (List.range kids.length)) kids.length 1 0 (List.replicate (intZ (List.range kids.length)).length 0))]):=
    call_cast (c_swap (q:=1) k1 (Nat.lt_of_le_of_lt k15 (by decide)) (rl.trans (Nat.one_mul _).symm) k100 fun y m=>(List.mem_map.mp m).elim fun k q=>q.2 ▸ ⟨Int.natCast_nonneg _,Int.ofNat_lt.mpr (Nat.lt_trans (List.mem_range.mp q.1) (Nat.lt_of_le_of_lt k15 (by decide)))⟩)
      (congrArg AV.bytes (by rw [rl];exact swap_rev _ (Nat.lt_succ_of_le k15))) rfl
  unfold orderF
  by_cases h:(turned && level % 2 == 1)=true
  · rw [if_pos h]
    apply Exists.intro
    apply it_bytes
    apply ev_openI
    · exact rfl
    apply ev_if_t
    · apply ts_row
      apply al_and2
      · repeat clear Zg
      · apply ts_eq
        · repeat clear Zg
        · exact nat_beq1
    · exact h
    repeat clear Zg
  · rw [if_neg h]
    refine ⟨[],?_⟩
    rw [List.append_nil]
    apply it_bytes
    apply ev_openI
    · exact rfl
    apply ev_if_f
    · apply ts_row
      apply al_and2
      · repeat clear Zg
      · apply ts_eq
        · repeat clear Zg
        · exact nat_beq1
    · exact Bool.eq_false_iff.mpr h
    repeat clear Zg
theorem rd_node (h:NodeAt B d tag es) (htag:(tag == ("curve" : Str))=false) (hk:B[d+2]? = some (.list kids)) (k1:1≤kids.length) (k15:kids.length≤15) (hkid:∀ p,p < kids.length→∃ d',kids[p]? = some (.ob (d'+3))∧RdOk g (n+1) B d' (level+1) turned (rows p)) (hlen:((orderF turned level kids.length).flatMap rows).length≤20) :
    RdOk g (n+2) B d level turned ((orderF turned level kids.length).flatMap rows):=by
  have ol:(orderF turned level kids.length).length=kids.length∧∀ p∈orderF turned level kids.length,p < kids.length:=by
    unfold orderF
    by_cases h:(turned && level % 2 == 1)=true
    · rw [if_pos h];exact ⟨List.length_reverse.trans List.length_range,fun p m=>List.mem_range.mp (List.mem_reverse.mp m)⟩
    · rw [if_neg h];exact ⟨List.length_range,fun p m=>List.mem_range.mp m⟩
  refine ⟨hlen,fun X=>?_⟩
  obtain ⟨Y1,told,t1,s1⟩:=rd_st1 (g:=g) (n:=n+1) (level:=level) (turned:=turned) h hk k15 X
  obtain ⟨Y2,s2⟩:=rd_iter (g:=g) (n:=n) (d:=d) (level:=level) (turned:=turned) (kids:=kids) (H:=B++X++Y1) (told:=told) k1 k15
  obtain ⟨Y3,told',t3,s3⟩:=rd_loop (row:=intZ (List.range kids.length)) h hk (Nat.le_trans k15 (by decide)) hkid (orderF turned level kids.length) [] told (X++Y1++Y2) ol.2 (by rw [ol.1,List.length_nil];omega) (by rw [←List.append_assoc,←List.append_assoc];exact getOld t1)
  rw [←List.append_assoc B,←List.append_assoc B] at t3 s3
  have a1:=(h.more (X:=X)).tag_
  refine ⟨Y1++Y2++Y3,told',?_,?_⟩
  · rw [←List.append_assoc,←List.append_assoc]
    apply call0 (d:=dRead) (in_tab 18 rfl) (by kernel_rfl) (bd_3 (n1:="thing") (n2:="level") (n3:="turned") (in_tab 18 rfl) (by kernel_rfl) (by decide +kernel) (fun _ _ _ _ _ _ _ _=>by kernel_rfl)) (by kernel_rfl)
    apply ex_as
    · exact (show dRead.body=[sAt dRead.body 0,sAt dRead.body 1,rdF,sAt dRead.body 3] by kernel_rfl)
    apply ex_cons
    · apply st_openI
      · exact rfl
      apply st_f
      · repeat clear Zg
      · exact htag
      exact ex_nil
    apply ex_cons
    · exact s1
    apply ex_cons
    · apply st_openF
      · exact rfl
      apply st_for
      · exact fun _ _=>rfl
      · rfl
      · exact s2
      · exact s3
    apply ex_ret
    apply st_openR
    · exact rfl
    apply st_ret
    exact ev_loc (by kernel_rfl) rfl
  · rw [←List.append_assoc,←List.append_assoc];exact t3
end
section
variable {β γ:Type} (f:β→γ)
theorem sortIns_map (k:Int) (v:β):∀ ps:List (Int × β),(sortIns k v ps).map (fun p=>(p.1,f p.2))=sortIns k (f v) (ps.map fun p=>(p.1,f p.2))
  | []=>rfl
  | (l,u) :: r=>by
    rw [sortIns,List.map_cons,sortIns]
    by_cases h:k < l
    · rw [if_pos h,if_pos h];rfl
    · rw [if_neg h,if_neg h,List.map_cons,sortIns_map k v r]
theorem sortA_map:∀ ps acc:List (Int × β),(sortA ps acc).map (fun p=>(p.1,f p.2))=sortA (ps.map fun p=>(p.1,f p.2)) (acc.map fun p=>(p.1,f p.2))
  | [],acc=>rfl
  | (k,v) :: r,acc=>by rw [sortA,List.map_cons,sortA,sortA_map r,sortIns_map]
end
noncomputable def kidsP (N:List Nd) (q:List Int):List (Int × Nd):=sortA ((N.filter (isKid q)).map fun n=>(n.last,n)) []
noncomputable def kidsN (N:List Nd) (q:List Int):List Nd:=(kidsP N q).map (·.2)
noncomputable def ordF (turned:Bool) (level:Nat) (l:List Nd):List Nd:=if (turned && level % 2 == 1)=true then l.reverse else l
noncomputable def row3 (N:List Nd) (turned:Bool) (q:List Int):List Nat:=(ordF turned 3 (kidsN N q)).map (·.name)
noncomputable def row2 (N:List Nd) (turned:Bool) (q:List Int):List Nat:=(ordF turned 2 (kidsN N q)).flatMap fun n=>row3 N turned n.pre
noncomputable def row1 (N:List Nd) (turned:Bool):List Nat:=(ordF turned 1 (kidsN N [])).flatMap fun n=>row2 N turned n.pre
section
variable {N:List Nd} {q:List Int} {n:Nd} {turned:Bool} {level:Nat} {l:List Nd}
theorem kidsA_eq:kidsA N q=(kidsP N q).map fun p=>(p.1,AV.ob (p.2.id+3)):=by
  unfold kidsA kidsP
  rw [sortA_map (fun n:Nd=>AV.ob (n.id+3)),List.map_map]
  rfl
theorem kidsA_ids:(kidsA N q).map (·.2)=(kidsN N q).map fun n=>.ob (n.id+3):=by
  rw [kidsA_eq,kidsN,List.map_map,List.map_map];rfl
theorem kidsN_mem:n∈kidsN N q↔n∈N∧n.pre=q++[n.last]:=by
  unfold kidsN kidsP
  constructor
  · intro h
    obtain ⟨p,hp,rfl⟩:=List.mem_map.mp h
    obtain ⟨m,hm,rfl⟩:=List.mem_map.mp (((mem_sortA _ _).mp hp).resolve_right fun m=>nomatch m)
    exact ⟨(List.mem_filter.mp hm).1,isKid_iff.mp (List.mem_filter.mp hm).2⟩
  · exact fun h=>List.mem_map.mpr ⟨(n.last,n),(mem_sortA _ _).mpr (.inl (List.mem_map.mpr ⟨n,List.mem_filter.mpr ⟨h.1,isKid_iff.mpr h.2⟩,rfl⟩)),rfl⟩
theorem kidsN_len:(kidsN N q).length≤N.length:=by
  unfold kidsN kidsP
  rw [List.length_map,len_sortA,List.length_map];exact List.length_filter_le ..
theorem ordF_mem:n∈ordF turned level l↔n∈l:=by
  unfold ordF
  by_cases h:(turned && level % 2 == 1)=true
  · rw [if_pos h];exact List.mem_reverse
  · rw [if_neg h]
theorem order_flat {α:Type} (g:Nd→List α) (rows:Nat→List α) (h:∀ p n,l[p]? = some n→rows p=g n):(orderF turned level l.length).flatMap rows=(ordF turned level l).flatMap g:=by
  have e:(List.range l.length).map rows=l.map g:=List.ext_getElem? fun i=>by
    rw [List.getElem?_map,List.getElem?_map]
    by_cases hi:i < l.length
    · rw [List.getElem?_range hi,List.getElem?_eq_getElem hi]
      exact congrArg some (h i _ (List.getElem?_eq_getElem hi))
    · rw [List.getElem?_eq_none (List.length_range.symm ▸ Nat.le_of_not_lt hi),List.getElem?_eq_none (Nat.le_of_not_lt hi)];rfl
  unfold orderF ordF
  by_cases h:(turned && level % 2 == 1)=true
  · rw [if_pos h,if_pos h,List.flatMap_def,List.flatMap_def,List.map_reverse,List.map_reverse,e]
  · rw [if_neg h,if_neg h,List.flatMap_def,List.flatMap_def,e]
end
section
variable {g:Gx} {m:Nat} {B:AHeap} {r level:Nat} {N:List Nd} {cs:List (List Int)} {turned:Bool} {n:Nd} {f:Nd→List Nat}
theorem kids_step (h:HT B r N) (hn:n∈allN r N) (hq:n.pre.length < 3) (hN:N.length≤15) (k1:1≤(kidsN N n.pre).length) (hk:∀ u∈kidsN N n.pre,RdOk g (m+1) B u.id (level+1) turned (f u)) (hlen:((ordF turned level (kidsN N n.pre)).flatMap f).length≤20):RdOk g (m+2) B n.id level turned ((ordF turned level (kidsN N n.pre)).flatMap f):=by
  obtain ⟨es,w⟩:=h.node n hn
  have hl:=h.kids n hn hq
  rw [kidsA_ids] at hl
  have e:=order_flat (turned:=turned) (level:=level) (l:=kidsN N n.pre) f (fun p=>((kidsN N n.pre)[p]?.map f).getD []) (fun p u hp=>by rw [hp];rfl)
  have tg:(tagOf n.pre == ("curve" : Str))=false:=by
    unfold tagOf
    by_cases h0:n.pre.length=0
    · rw [if_pos h0];kernel_rfl
    · rw [if_neg h0,if_neg (Nat.ne_of_lt hq)];kernel_rfl
  have ln:((kidsN N n.pre).map fun n=>AV.ob (n.id+3)).length=(kidsN N n.pre).length:=List.length_map _
  rw [←e] at hlen ⊢
  rw [←ln] at hlen ⊢
  refine rd_node w.at_ tg hl (ln.symm ▸ k1) (Nat.le_trans (Nat.le_of_eq ln) (Nat.le_trans kidsN_len hN)) (fun p hp=>?_) hlen
  have g1:=List.getElem?_eq_getElem (ln ▸ hp)
  exact ⟨_,(List.getElem?_map ..).trans (congrArg _ g1),by rw [g1];exact hk _ (List.mem_of_getElem? g1)⟩
theorem Inv.nonempty (h:Inv N cs 5) (s5:cs.length=5) (hc:∀ c∈cs,c.length=3):1≤(kidsN N []).length∧∀ n∈N,n.pre.length < 3→1≤(kidsN N n.pre).length:=by
  have last:∀ {u:Nd} {q:List Int} {b:Int},u.pre=q++[b]→u.pre=q++[u.last]:=fun {u q b} e=>by
    have:u.last=b:=by unfold Nd.last;rw [e];exact List.getLastD_concat
    rw [this];exact e
  refine ⟨?_,fun n hn hl=>?_⟩
  · have e:=List.getElem?_eq_getElem (l:=cs) (i:=0) (s5.symm ▸ by decide)
    obtain ⟨x,y,z,e3⟩:=three (hc _ (List.mem_of_getElem? e))
    rw [e3] at e
    obtain ⟨⟨n,hn,e1⟩,_⟩:=h.has 0 _ (by decide) e
    exact List.length_pos_of_mem (kidsN_mem.mpr ⟨hn,last (q:=[]) e1⟩)
  · obtain ⟨j,c,hj,e,i,i1,i3,e2,_⟩:=h.of n hn
    obtain ⟨x,y,z,rfl⟩:=three (hc c (List.mem_of_getElem? e))
    obtain ⟨_,⟨m2,hm2,p2⟩,m3,hm3,p3,_⟩:=h.has j _ hj e
    match i,i1,i3 with
    | 1,_,_=>exact List.length_pos_of_mem (kidsN_mem.mpr ⟨hm2,last (b:=y) (p2.trans (by rw [e2];rfl))⟩)
    | 2,_,_=>exact List.length_pos_of_mem (kidsN_mem.mpr ⟨hm3,last (b:=z) (p3.trans (by rw [e2];rfl))⟩)
    | 3,_,_=>rw [e2] at hl;exact absurd hl (Nat.lt_irrefl 3)
theorem flat_le {α β:Type} {l:List α} {x:α} (h:x∈l) (f:α→List β):(f x).length≤(l.flatMap f).length:=by
  obtain ⟨s,t,rfl⟩:=List.append_of_mem h
  rw [List.flatMap_append,List.flatMap_cons,List.length_append,List.length_append]
  exact Nat.le_trans (Nat.le_add_right _ _) (Nat.le_add_left _ _)
theorem bush_read (h:HT B r N) (i:Inv N cs 5) (hN:N.length≤15) (s5:cs.length=5) (hc:∀ c∈cs,c.length=3) (hl:(row1 N turned).length≤20):RdOk g (m+4) B r 1 turned (row1 N turned):=by
  obtain ⟨e1,e2⟩:=i.nonempty s5 hc
  refine kids_step (m:=m+2) (n:=⟨r,[],0⟩) (f:=fun n=>row2 N turned n.pre) h (.head _) (Nat.le_of_ble_eq_true rfl) hN e1 (fun n hn=>?_) hl
  obtain ⟨hn1,hn2⟩:=kidsN_mem.mp hn
  have ln:n.pre.length=1:=by rw [hn2];rfl
  have l2:(row2 N turned n.pre).length≤20:=Nat.le_trans (flat_le (ordF_mem.mpr hn) fun n=>row2 N turned n.pre) hl
  refine kids_step (m:=m+1) (f:=fun n=>row3 N turned n.pre) h (.tail _ hn1) (by rw [ln];decide) hN (e2 n hn1 (by rw [ln];decide)) (fun u hu=>?_) l2
  obtain ⟨hu1,hu2⟩:=kidsN_mem.mp hu
  have lu:u.pre.length=2:=by rw [hu2,List.length_append,ln];rfl
  have l3:(row3 N turned u.pre).length≤20:=Nat.le_trans (flat_le (ordF_mem.mpr hu) fun n=>row3 N turned n.pre) l2
  have e3:row3 N turned u.pre=(ordF turned 3 (kidsN N u.pre)).flatMap fun n=>[n.name]:=List.map_eq_flatMap
  rw [e3] at l3 ⊢
  refine kids_step (m:=m) (f:=fun n=>[n.name]) h (.tail _ hu1) (by rw [lu];decide) hN (e2 u hu1 (by rw [lu];decide)) (fun p hp=>?_) l3
  obtain ⟨hp1,hp2⟩:=kidsN_mem.mp hp
  have lp:p.pre.length=3:=by rw [hp2,List.length_append,lu];rfl
  obtain ⟨es,w⟩:=h.node p (.tail _ hp1)
  have wa:=w.at_
  rw [show tagOf p.pre = "curve" by unfold tagOf;rw [lp];rfl] at wa
  exact rd_leaf wa (w.name lp)
end
section
variable {g:Gx} {n k:Nat} {H B E:AHeap} {r tb ci li ri i:Nat} {N:List Nd} {cs:List (List Int)} {cids:List Nat} {cv lf rt v:AV} {M l:Loc} {pos:Pos} {c:Cx} {b hd:Bool} {es:List (Str × AV)} {lfs rts:List Nat}
theorem c_isel (h:Call g n hd H (.bi "hasattr") [v,.str "tag"] [] (.bool b) H):Call g (n+1) hd H (.top 113) [v] [] (.bool b) H:=by
  apply call0 (d:=dIsel) (in_tab 12 rfl) (by kernel_rfl) (bd_1 (n1:="element") (in_tab 12 rfl) (by kernel_rfl) (by decide +kernel) (fun _ _ _ _ _ _=>by kernel_rfl)) (by kernel_rfl)
  apply ex_ret
  apply st_ret
  apply ev_call (fun _ _=>rfl) (fun _ _=>⟨rfl,rfl,rfl⟩)
  · repeat clear Zg
  · repeat clear Zg
  · repeat clear Zg
  · repeat clear Zg
  · exact h
theorem ev_dict0E:Ev c l (H++E) (.Dict [] [] pos) (.ob (H.length+E.length)) (H++(E++[.dict []])):=by
  rw [←app3,←lenE];exact ev_dict0
noncomputable def bareF (d:Option Nat):AObj:=mkLam (eltN (asgV (sAt dBush.body 0)) 3) (lamQ dBush) [] d
noncomputable abbrev buH (H:AHeap):AHeap:=H++([.dict []]++thE (H.length+1) (.str "bush") (.ob H.length)++[.dict []]++[.list []]++[bareF (some (H.length+11))]++[.tup [.ob (H.length+3),.ob (H.length+7),.ob (H.length+8),.ob (H.length+9)]]++[.nsd [("tag",.str "bare")]])
theorem bu_start {bs:List Stmt} {r:SOut} (h2:Ex ⟨g,n+1,buK⟩ (buL cv lf rt H.length (H.length+7)) (buH H) bs r):Ex ⟨g,n+1,buK⟩ [("curves",cv),("left",lf),("right",rt)] (H++[]) (sAt dBush.body 0 :: sAt dBush.body 1 :: bs) r:=by
  apply ex_cons
  · apply st_openA
    · exact rfl
    apply st_assign
    · kernel_rfl
    · kernel_rfl
    · exact fun _ _=>rfl
    · repeat clear Zg
      · exact ev_dict0E
      repeat clear Zg
      · exact c_thingE
      repeat clear Zg
      · exact ev_dict0E
      repeat clear Zg
    · repeat clear Zg
  apply ex_cons
  · apply st_as
    · repeat clear Zg
    · exact rfl
    · exact rfl
  exact h2
theorem buH_ok:Bu H (buH H) H.length (H.length+7) 0 [] []:=by
  refine ⟨⟨_,rfl⟩,⟨List.pairwise_singleton ..,fun n hn m hm _ _=>(List.mem_singleton.mp hn).trans (List.mem_singleton.mp hm).symm,fun _ m=>nomatch m⟩,⟨fun n hn=>?_,fun n hn _=>?_⟩,⟨[],getK (k:=7) rfl,.inl rfl⟩,⟨0,getK (k:=8) rfl,Nat.le_refl _⟩,Nat.le_add_right _ _,fun n hn=>?_,⟨.str "bare",getK (k:=9) rfl,getK (k:=11) rfl,by kernel_rfl,rfl,rfl⟩,fun _ m=>nomatch m⟩
  · obtain rfl:=List.mem_singleton.mp hn
    exact ⟨[],⟨get0 rfl,getK (k:=1) rfl,getK (k:=3) rfl,getK (k:=5) rfl,getK (k:=6) rfl⟩,fun q=>absurd rfl q,fun q=>nomatch q⟩
  · obtain rfl:=List.mem_singleton.mp hn
    exact getK (k:=2) rfl
  · obtain rfl:=List.mem_singleton.mp hn
    exact Nat.le_refl _
theorem bu_words (h:B[tb+1]? = some (.list (List.replicate k ixM))) (hk:k≤20) (l1:l.lookup ("words" : Str)=some (.ob (tb+1))):Ev ⟨g,n,buK⟩ l B (cmpL (boolN (asgV (sAt dBush.body 3)) 1)) (.ob B.length) (B++[.list []]):=by
  have e:((List.replicate k ixM).filter fun _=>false).map id=[]:=by rw [List.filter_eq_nil_iff.mpr fun _ _=>Bool.false_ne_true];rfl
  apply ev_openC
  · exact rfl
  apply ev_comp
  rw [←e]
  apply lc_x (st:=fun v=>upd "word" v [])
  · rfl
  · exact ⟨by kernel_rfl,by kernel_rfl,by kernel_rfl⟩
  · exact fun _ _=>rfl
  · rfl
  · exact rfl
  · apply it_list
    · repeat clear Zg
    · exact h
  · rfl
  · exact Yl.list h go_name _ 0 rfl
  · rw [List.length_replicate];exact Nat.le_trans hk (by decide)
  · intro v _ as
    repeat clear Zg
  · intro v m as
    rw [List.eq_of_mem_replicate m]
    apply fs_one
    apply ts_eq
    · repeat clear Zg
    · kernel_rfl
  · intro v _ q
    exact nomatch q
theorem bu_st3 (h:B[tb+1]? = some (.list (List.replicate k ixM))) (hk:k≤20) (ht:B[tb]? = some (.dict [("bend",.int 9)])) (l1:l.lookup ("words" : Str)=some (.ob (tb+1))) (l2:l.lookup ("table" : Str)=some (.ob tb)):∃ Q,St ⟨g,n,buK⟩ l B (sAt dBush.body 3) ⟨.next,upd "same" (.bool true) l,B++Q⟩:=by
  have w:=bu_words (g:=g) (n:=n) (B:=B++[.dict [("bend",.int 9)]]) (l:=l) (getOld h) hk l1
  refine ⟨[.dict [("bend",.int 9)]]++[.list []]++[.list []],?_⟩
  apply st_as
  · apply st_openA
    · exact rfl
    apply st_assign
    · kernel_rfl
    · kernel_rfl
    · exact fun _ _=>rfl
    · apply ev_and
      apply bo_cons
      · apply ev_cmp
        · exact fun _=>rfl
        · repeat clear Zg
        · exact ev_dict1
        · exact c_eq_dict (getOld ht) get_last
      · apply bo_one
        apply ev_cmp
        · exact fun _=>rfl
        · exact w
        · apply ev_list
          · exact fun _ _=>rfl
          · exact es_nil
          · decide
        · exact c_eq_list embInt (xs:=[]) (ys:=[]) (getOld get_last) get_last (fun _ m=>nomatch m) (fun _ m=>nomatch m)
    · apply as_name
      exact sn_here (by kernel_rfl)
  · rfl
  · rw [app3,app3];rfl
end
noncomputable abbrev buM (ci li ri:AV) (r tb:Nat) (a b:AV) (t:Nat) (d:AV):Loc:=buL ci li ri r tb++([("name",a),("curve",b),("at",.ob (t+3)),("bend",d)]:Loc)
section
variable {g:Gx} {n k:Nat} {H B E:AHeap} {r tb ci li ri i d:Nat} {N:List Nd} {cs:List (List Int)} {cids:List Nat} {cv lf rt v:AV} {M l:Loc} {tag tag':Str} {es es':List (Str × AV)} {xs:List AV} {lfs rts:List Nat}
theorem bu_st4 (h1:NodeAt B r tag es) (h2:NodeAt B d tag' es') (h3:AttrQ B (tb+2) "tag" v) (h4:B[tb]? = some (.dict [("bend",.int 9)])) (h5:B[li]? = some (.list xs)) (l1:l.lookup ("root" : Str)=some (.ob (r+3))) (l2:l.lookup ("at" : Str)=some (.ob (d+3))) (l3:l.lookup ("bare" : Str)=some (.ob (tb+2))) (l4:l.lookup ("table" : Str)=some (.ob tb)) (l5:l.lookup ("left" : Str)=some (.ob li)) :
    St ⟨g,n+1,buK⟩ l B (sAt dBush.body 4) ⟨.next,upd "sure" (.bool true) l,B⟩:=by
  have c1:Call g (n+1) false B (.top 113) [.ob (r+3)] [] (.bool true) B:=c_isel (c_has_fn h1.tag_)
  have c2:Call g (n+1) false B (.top 113) [.ob (d+3)] [] (.bool true) B:=c_isel (c_has_fn h2.tag_)
  have c3:Call g (n+1) false B (.top 113) [.ob (tb+2)] [] (.bool true) B:=c_isel (c_has_fn h3)
  have c4:Call g (n+1) false B (.top 113) [.ob tb] [] (.bool false) B:=c_isel (c_has_dno h4)
  have c5:Call g (n+1) false B (.top 113) [.ob li] [] (.bool false) B:=c_isel (c_has_lno h5)
  have ct:Cmp g .Is (.bool true) (.bool true) B true:=c_is_bool (a:=true) (b:=true)
  have cf:Cmp g .Is (.bool false) (.bool false) B true:=c_is_bool (a:=false) (b:=false)
  apply st_openA
  · exact rfl
  apply st_assign
  · kernel_rfl
  · kernel_rfl
  · exact fun _ _=>rfl
  · apply ev_and
    repeat clear Zg
  · repeat clear Zg
theorem natsA_ints (xs:List Nat):∃ ys:List Int,natsA xs=ys.map .int:=⟨intZ xs,by rw [List.map_map];rfl⟩
theorem bu_st5 (h1:RdOk g n B r 1 false rts) (h2:RdOk g n B r 1 true lfs) (h3:B[li]? = some (.list (natsA lfs))) (h4:B[ri]? = some (.list (natsA rts))) (l1:l.lookup ("root" : Str)=some (.ob (r+3))) (l2:l.lookup ("left" : Str)=some (.ob li)) (l3:l.lookup ("right" : Str)=some (.ob ri)) (l4:l.lookup ("same" : Str)=some (.bool true)) (l5:l.lookup ("sure" : Str)=some (.bool true)) :
    ∃ Q,St ⟨g,n,buK⟩ l B (sAt dBush.body 5) ⟨.ret (.bool true),l,B++Q⟩:=by
  obtain ⟨Y1,id1,e1,g1⟩:=h1.call []
  rw [List.append_nil] at e1 g1
  obtain ⟨Y2,id2,e2,g2⟩:=h2.call Y1
  refine ⟨Y1++Y2,?_⟩
  rw [←List.append_assoc]
  apply st_openR
  · exact rfl
  apply st_ret
  apply ev_and
  repeat clear Zg
  · exact e1
  repeat clear Zg
  · exact c_eq_same (natsA_ints rts) g1 (getOld h4)
  repeat clear Zg
  · exact e2
  repeat clear Zg
  · exact c_eq_same (natsA_ints lfs) g2 (getOld (getOld h3))
theorem RdOk.more {level:Nat} {turned:Bool} {row:List Nat} {X:AHeap} (h:RdOk g n B d level turned row):RdOk g n (B++X) d level turned row:=
  ⟨h.len,fun Z=>by rw [app3];exact h.call _⟩
theorem c_bush (h1:H[ci]? = some (.list (cids.map .ob))) (c5:cids.length=5) (s5:cs.length=5) (cc:∀ (k:Nat) c i,cs[k]? = some c→cids[k]? = some i→H[i]? = some (.list (c.map .int))∧c.length=3) (hl:H[li]? = some (.list (natsA lfs))) (hr:H[ri]? = some (.list (natsA rts))) (l5:lfs.length=5) (r5:rts.length=5)
    (hread:∀ r N,Tr r N→Inv N cs 5→row1 N false=rts∧row1 N true=lfs):∃ G,Call g (n+6) false H (.top 146) [.ob ci,.ob li,.ob ri] [] (.bool true) (H++G):=by
  obtain ⟨B,N,M,s,w⟩:=bu_loop (g:=g) (n:=n) (li:=.ob li) (ri:=.ob ri) h1 c5 s5 cc 5 0 (buH H) [] [] rfl ⟨buH_ok,Inv.nil,Nat.le_refl _,fun q=>absurd q (Nat.lt_irrefl 0)⟩
  obtain ⟨d9,a,b,t,d,rfl,u,hu,rfl⟩:=s.last (by decide)
  obtain ⟨k,w1,w2⟩:=s.bu.wds
  obtain ⟨v,bare⟩:=s.bu.bare
  obtain ⟨er,nr⟩:=s.bu.ht.node _ (.head _)
  obtain ⟨eu,nu⟩:=s.bu.ht.node u hu
  obtain ⟨q1,q2⟩:=hread _ N s.bu.tr s.inv
  have hc3:∀ c∈cs,c.length=3:=fun c m=>by
    obtain ⟨k,hk⟩:=List.getElem?_of_mem m
    obtain ⟨i,hi⟩:=at_len s5 c5 hk
    exact (cc k c i hk hi).2
  have rf:=bush_read (g:=g) (m:=n+1) (turned:=false) s.bu.ht s.inv s.len s5 hc3 (by rw [q1,r5];decide)
  have rt':=bush_read (g:=g) (m:=n+1) (turned:=true) s.bu.ht s.inv s.len s5 hc3 (by rw [q2,l5];decide)
  rw [q1] at rf
  rw [q2] at rt'
  obtain ⟨Q3,e3⟩:=bu_st3 (g:=g) (n:=n+5) (l:=buM (.ob ci) (.ob li) (.ob ri) H.length (H.length+7) a b u.id d) w1 (Nat.le_trans w2 (by decide)) d9 rfl rfl
  have e4:=bu_st4 (g:=g) (n:=n+4) (l:=upd "same" (.bool true) (buM (.ob ci) (.ob li) (.ob ri) H.length (H.length+7) a b u.id d)) (nr.at_.more (X:=Q3)) nu.at_.more (attr_more bare) (getOld d9) (getOld (s.bu.old hl)) rfl rfl rfl rfl rfl
  obtain ⟨Q5,e5⟩:=bu_st5 (l:=upd "sure" (.bool true) (upd "same" (.bool true) (buM (.ob ci) (.ob li) (.ob ri) H.length (H.length+7) a b u.id d))) (rf.more (X:=Q3)) rt'.more (getOld (s.bu.old hl)) (getOld (s.bu.old hr)) rfl rfl rfl rfl rfl
  obtain ⟨Y,hY⟩:=s.bu.pfx
  refine ⟨Y++Q3++Q5,?_⟩
  rw [←List.append_assoc,←List.append_assoc,←hY]
  have body:Ex ⟨g,n+5,buK⟩ [("curves",.ob ci),("left",.ob li),("right",.ob ri)] (H++[]) dBush.body ⟨.ret (.bool true),upd "sure" (.bool true) (upd "same" (.bool true) (buM (.ob ci) (.ob li) (.ob ri) H.length (H.length+7) a b u.id d)),B++Q3++Q5⟩:=by
    apply ex_as
    · exact (show dBush.body=sAt dBush.body 0 :: sAt dBush.body 1 :: [buF,sAt dBush.body 3,sAt dBush.body 4,sAt dBush.body 5] by kernel_rfl)
    apply bu_start
    apply ex_cons
    · apply st_openF
      · exact rfl
      apply st_for
      · exact fun _ _=>rfl
      · rfl
      · apply it_enum (fun _ _=>rfl) (by kernel_rfl)
        · repeat clear Zg
        · exact buH_ok.old h1
      · exact w
    exact ex_cons e3 (ex_cons e4 (ex_ret e5))
  rw [List.append_nil] at body
  apply call0 (d:=dBush) (in_tab 17 rfl) (by kernel_rfl) (bd_3 (n1:="curves") (n2:="left") (n3:="right") (in_tab 17 rfl) (by kernel_rfl) (by decide +kernel) (fun _ _ _ _ _ _ _ _=>by kernel_rfl)) (by kernel_rfl)
  exact body
end
noncomputable def bendF (c:Int):Int:=c.fmod 3 - 1
noncomputable abbrev lwK (c:Nat):K:=⟨dLaw.scope,dLaw.name ++ ".<locals>.",[("high",c+1),("cells",c)],false,dLaw.lam⟩
noncomputable abbrev lwE1:Expr:=asgV (sAt dLaw.body 1)
noncomputable abbrev lwC (g:Gx) (n c:Nat):Cx:=⟨g,n,kC (lwK c) (compS lwE1) [("cells",c)]⟩
noncomputable def segF (cs:List Int) (f:Nat):List Int:=(cs.take (f+3)).drop f
section
variable {g:Gx} {n c ki f:Nat} {B Q:AHeap} {as:List AV} {cs:List Int} {l:Loc}
theorem lw_elt (b1:B[c]? = some (.cell (some (.ob ki)))) (b2:B[ki]? = some (.list (cs.map .int))) (h16:cs.length=16):Ev (lwC g n c) [("first",.int (f:Nat))] (B++(.list as :: Q)) (compElt lwE1) (.ob (B.length+(Q.length+2))) (B++(.list as :: (Q++[mkI (segF cs f)]++[mkI ((segF cs f).map bendF)]))):=by
  have hl:(cs.map AV.int).length≤1000:=by rw [List.length_map,h16];decide
  have ls:(segF cs f).length≤1000:=Nat.le_trans (List.drop_sublist _ _).length_le (Nat.le_trans (List.take_sublist _ _).length_le (h16.symm ▸ by decide))
  have e:((segF cs f).filter fun _=>true).map (fun j=>AV.int (bendF j))=((segF cs f).map bendF).map .int:=by rw [List.filter_eq_self.mpr (fun _ _=>rfl),List.map_map];rfl
  apply ev_openC
  · exact rfl
  apply ev_as
  · apply ev_comp
    apply lc_xi (H1:=B++(.list as :: Q)++[mkI (segF cs f)]) (st:=fun j=>upd "cell" (.int j) []) (hs:=segF cs f) (q:=fun _=>true) (f:=fun j=>.int (bendF j))
    · rfl
    · exact ⟨by kernel_rfl,by kernel_rfl,by kernel_rfl⟩
    · exact fun _ _=>rfl
    · rfl
    · exact rfl
    · apply it_list
      · rw [segF,mkI,List.map_drop,List.map_take]
        apply ev_slT
        · exact ev_cell rfl (getOld b1)
        · exact ev_loc (by kernel_rfl) rfl
        · apply ev_bin
          · exact ev_loc (by kernel_rfl) rfl
          · exact ev_int
          · exact b_add
        · exact .inl (getOld b2)
        · exact hl
      · exact get_last
    · rfl
    · exact Yl.list get_last go_name _ 0 rfl
    · exact ls
    · intro j _ as
      repeat clear Zg
    · intro j _ as
      exact fs_nil
    · intro j _ _ as
      apply ev_bin
      · apply ev_bin
        · exact ev_loc (by kernel_rfl) rfl
        · exact ev_int
        · exact b_mod (by decide)
      · exact ev_int
      · exact b_sub
  · rw [len1,lenE];rfl
  · rw [e,app3,app3];exact congrArg (B++·) (congrArg (AObj.list as :: ·) (by rw [app3];rfl))
theorem lw_turn1 {z:Int} {r':Nat} {l':Loc} {H':AHeap} (b1:B[c]? = some (.cell (some (.ob ki)))) (b2:B[ki]? = some (.list (cs.map .int))) (h16:cs.length=16) (hz:z=(f:Nat)) (hl:as.length≤100)
    (hr:Ge (lwC g n c) [] (B++(.list (as++[.ob (B.length+(Q.length+2))]) :: (Q++[mkI (segF cs f)]++[mkI ((segF cs f).map bendF)]))) (compElt lwE1) (compGs lwE1) (.range (z+3) 3 r') B.length l' H'):Ge (lwC g n c) [] (B++(.list as :: Q)) (compElt lwE1) (compGs lwE1) (.range z 3 (r'+1)) B.length l' H':=by
  subst hz
  apply ge_open
  · exact rfl
  apply ge_putE
  · rfl
  · repeat clear Zg
  · exact fs_nil
  · exact lw_elt b1 b2 h16
  · exact rfl
  · exact Nat.le_trans hl (by decide)
  · exact ge_sub_loc (l1:=[]) (gr:=[]) sub_nil hr
noncomputable def csF (cs:List Int):List (List Int):=[0,3,6,9,12].map fun f=>(segF cs f).map bendF
theorem lw_curves (b1:B[c]? = some (.cell (some (.ob ki)))) (b2:B[ki]? = some (.list (cs.map .int))) (h16:cs.length=16):∃ (X:AHeap) (cids:List Nat),Lc ⟨g,n,lwK c⟩ l B (compElt lwE1) (compGs lwE1) (compS lwE1) B.length (B++X)∧cids.length=5∧(B++X)[B.length]? = some (.list (cids.map .ob))∧∀ (k:Nat) d i,(csF cs)[k]? = some d→cids[k]? = some i→(B++X)[i]? = some (.list (d.map .int)):=by
  refine ⟨.list [.ob (B.length+2),.ob (B.length+4),.ob (B.length+6),.ob (B.length+8),.ob (B.length+10)] :: ([]++[mkI (segF cs 0)]++[mkI ((segF cs 0).map bendF)]++[mkI (segF cs 3)]++[mkI ((segF cs 3).map bendF)]++[mkI (segF cs 6)]++[mkI ((segF cs 6).map bendF)]++[mkI (segF cs 9)]++[mkI ((segF cs 9).map bendF)]++[mkI (segF cs 12)]++[mkI ((segF cs 12).map bendF)]),
    [B.length+2,B.length+4,B.length+6,B.length+8,B.length+10],?_,rfl,get_mid,fun k d i hd hi=>?_⟩
  · apply lc_mk (H1:=B) (it:=.range 0 3 5)
    · exact rfl
    · exact ⟨by kernel_rfl,by kernel_rfl,by kernel_rfl⟩
    · rfl
    · exact fun _ _=>rfl
    · rfl
    · exact rfl
    · apply it_range3 (a:=0) (b:=15) (st:=3) (fun _ _=>rfl) (by kernel_rfl)
      · repeat clear Zg
      · repeat clear Zg
      · repeat clear Zg
      · exact ⟨⟨by decide,by decide⟩,by decide,by decide⟩
      · decide
      · decide
    · rfl
    · rfl
    · apply lw_turn1 (f:=0) b1 b2 h16 rfl (Nat.le_of_ble_eq_true rfl)
      apply lw_turn1 (f:=3) b1 b2 h16 rfl (Nat.le_of_ble_eq_true rfl)
      apply lw_turn1 (f:=6) b1 b2 h16 rfl (Nat.le_of_ble_eq_true rfl)
      apply lw_turn1 (f:=9) b1 b2 h16 rfl (Nat.le_of_ble_eq_true rfl)
      apply lw_turn1 (f:=12) b1 b2 h16 rfl (Nat.le_of_ble_eq_true rfl)
      apply ge_open
      · exact rfl
      exact ge_endE rfl end_range
  · match k,hd,hi with
    | 0,hd,hi=>obtain rfl:=Option.some.inj hd;obtain rfl:=Option.some.inj hi;exact getK rfl
    | 1,hd,hi=>obtain rfl:=Option.some.inj hd;obtain rfl:=Option.some.inj hi;exact getK rfl
    | 2,hd,hi=>obtain rfl:=Option.some.inj hd;obtain rfl:=Option.some.inj hi;exact getK rfl
    | 3,hd,hi=>obtain rfl:=Option.some.inj hd;obtain rfl:=Option.some.inj hi;exact getK rfl
    | 4,hd,hi=>obtain rfl:=Option.some.inj hd;obtain rfl:=Option.some.inj hi;exact getK rfl
    | k + 5,hd,hi=>exact nomatch hd
end
noncomputable def takeF (at_:Nat) (p:List Nat × List Nat):List Nat × List Nat:=(p.1++[p.2[at_]?.getD 0],p.2.take at_++p.2.drop (at_+1))
noncomputable abbrev lwL (s cv:AV) (ri fi:Nat) (nr l r h u:AV):Loc:=[("script",s),("curves",cv),("rest",.ob ri),("free",.ob fi),("near",nr),("left",l),("right",r),("heights",h),("sure",u)]
noncomputable abbrev lwM (s cv:AV) (ri fi:Nat) (nr l r h u:AV) (a b:AV):Loc:=[("script",s),("curves",cv),("rest",.ob ri),("free",.ob fi),("near",nr),("left",l),("right",r),("heights",h),("sure",u),("size",a),("at",b)]
noncomputable abbrev lwF:Stmt:=sAt dLaw.body 4
section
variable {g:Gx} {n c k ki fi ri size at_:Nat} {B Q H1 H2 H3 H4 E:AHeap} {as xs:List AV} {cs:List Int} {l l1 l2 l3:Loc} {a:Int} {fr rs:List Nat} {s cv nr lv rv hv uv v1 v2 v3:AV} {C:Cx} {e:Expr}
theorem st_swap3 {nm1 nm2 nm3:Str} {k i:Nat} {p1 p2 p3 p4 pos:Pos} {H:AHeap} (h0:swapsWithSole [.Tuple [.Name nm1 p1,.Name nm2 p2,.Name nm3 p3] k p4] e pos.line (envS C.k.scope)=pure false) (h1:swappedStores [.Tuple [.Name nm1 p1,.Name nm2 p2,.Name nm3 p3] k p4] e (envS C.k.scope)=pure (some [nm1,nm2,nm3]))
    (h2:Ev C l H e (.ob i) H1) (h:H1[i]? = some (.tup [v1,v2,v3])) (h3:Sn C l H1 nm3 v3 l1 H2) (h4:Sn C l1 H2 nm2 v2 l2 H3) (h5:Sn C l2 H3 nm1 v1 l3 H4):St C l H (.Assign [.Tuple [.Name nm1 p1,.Name nm2 p2,.Name nm3 p3] k p4] e pos) ⟨.next,l3,H4⟩:=
  st_swap h0 h1 h2 h rfl (sns_cons h3 (sns_cons h4 (sns_cons h5 sns_nil)))
theorem lw_near (h1:(B++E)[c]? = some (.cell (some (.ob ki)))) (h2:(B++E)[ki]? = some (.list (cs.map .int))) (h15:(cs.map AV.int)[(15:Int).toNat]? = some (.int a)) :
    St ⟨g,n,lwK c⟩ [("script",s),("curves",cv)] (B++E) (sAt dLaw.body 2) ⟨.next,[("script",s),("curves",cv),("rest",.ob (B.length+(E.length+1))),("free",.ob (B.length+E.length)),("near",.int (16+a.fmod 1000))],B++(E++[.list []]++[.list (natsA [0,1,2,3,4])]++[.tup [.int (16+a.fmod 1000),.ob (B.length+E.length),.ob (B.length+(E.length+1))]])⟩:=by
  apply st_as
  · apply st_openA
    · exact rfl
    apply st_swap3
    · kernel_rfl
    · exact rfl
    · repeat clear Zg
    · exact getLE
    · exact sn_here (by kernel_rfl)
    · exact sn_here (by kernel_rfl)
    · exact sn_here (by kernel_rfl)
  · rw [len1];rfl
  · rw [len1];rfl
noncomputable def atF (a:Int) (size:Nat):Nat:=((a.fdiv 3).fmod size).toNat
theorem atF_eq (h:0 < size):(a.fdiv 3).fmod size=(atF a size:Nat)∧atF a size < size:=
  have h1:=Int.fmod_nonneg_of_pos (a.fdiv 3) (Int.natCast_pos.mpr h)
  have h2:=Int.fmod_lt_of_pos (a.fdiv 3) (Int.natCast_pos.mpr h)
  ⟨(Int.toNat_of_nonneg h1).symm,(Int.toNat_lt h1).mpr h2⟩
theorem lw_turn (h1:B[c]? = some (.cell (some (.ob k)))) (h2:B[k]? = some (.list (cs.map .int))) (h16:cs.length=16) (s5:1≤size) (s6:size≤5) (ha:cs[5 - size]? = some a) (hl:rs.length=size) (hf:fr.length≤10) (hB1:B[fi]? = some (.list (natsA fr))) (hB2:B[ri]? = some (.list (natsA rs))):∃ Q fi' ri',
    (B++Q)[fi']? = some (.list (natsA (takeF (atF a size) (fr,rs)).1))∧(B++Q)[ri']? = some (.list (natsA (takeF (atF a size) (fr,rs)).2)) ∧
    Ex ⟨g,n,lwK c⟩ (upd "size" (.int (size:Nat)) (lwL s cv ri fi nr lv rv hv uv)) B (whB lwF) ⟨.next,lwM s cv ri' fi' nr lv rv hv uv (.int (size:Nat)) (.int (atF a size:Nat)),B++Q⟩:=by
  obtain ⟨hat,hlt⟩:=atF_eq (a:=a) s5
  generalize atF a size=at_ at hat hlt
  have hv':=List.getElem?_eq_getElem (hl.symm ▸ hlt)
  generalize rs[at_]'(hl.symm ▸ hlt)=v at hv'
  have ev:(natsA rs)[at_]? = some (.int (v:Nat)):=(List.getElem?_map ..).trans (congrArg _ hv')
  have ecs:(cs.map AV.int)[5 - size]? = some (.int a):=(List.getElem?_map ..).trans (congrArg _ ha)
  have lcs:(cs.map AV.int).length≤1000:=by rw [List.length_map,h16];decide
  have lrs:(natsA rs).length≤5:=by rw [natsA,List.length_map,hl];exact s6
  have lrs':(natsA rs).length≤1000:=Nat.le_trans lrs (by decide)
  have e1:natsA (takeF at_ (fr,rs)).1=natsA fr++[.int (v:Nat)]:=by
    show natsA (fr++[rs[at_]?.getD 0])=_
    rw [hv'];exact List.map_append
  have e2:natsA (takeF at_ (fr,rs)).2=(natsA rs).take at_++(natsA rs).drop (at_+1):=by
    show natsA (rs.take at_++rs.drop (at_+1))=_
    unfold natsA;rw [List.map_append,List.map_take,List.map_drop]
  have l1:(natsA fr++[AV.int (v:Nat)]).length≤1000:=by rw [List.length_append,natsA,List.length_map];exact Nat.le_trans (Nat.add_le_add_right hf 1) (by decide)
  have l2:((natsA rs).take at_++(natsA rs).drop (at_+1)).length≤1000:=by
    rw [List.length_append]
    exact Nat.le_trans (Nat.add_le_add (List.take_sublist _ _).length_le (List.drop_sublist _ _).length_le) (Nat.le_trans (Nat.add_le_add lrs lrs) (by decide))
  rw [e1,e2]
  refine ⟨[.list [.int (v:Nat)]]++[.list (natsA fr++[.int (v:Nat)])]++[.list ((natsA rs).take at_)]++[.list ((natsA rs).drop (at_+1))]++[.list ((natsA rs).take at_++(natsA rs).drop (at_+1))]++[.tup [.ob (B.length+1),.ob (B.length+4)]],B.length+1,B.length+4,getK rfl,getK rfl,?_⟩
  apply ex_as
  · exact (show whB lwF=[sAt (whB lwF) 0,sAt (whB lwF) 1] by kernel_rfl)
  apply ex_cons (l1:=lwM s cv ri fi nr lv rv hv uv (.int (size:Nat)) (.int (at_:Nat))) (H1:=B++[])
  · rw [List.append_nil,←hat]
    apply st_as
    · apply st_openA
      · exact rfl
      apply st_assign
      · kernel_rfl
      · kernel_rfl
      · exact fun _ _=>rfl
      · apply ev_bin
        · apply ev_bin
          · apply ev_idx (fun _ _=>rfl)
            · repeat clear Zg
            · apply ev_bin
              · exact ev_int
              · repeat clear Zg
              · exact b_subN (a:=5) s6
            · exact i_nat h2 lcs ecs
          · exact ev_int
          · exact b_div (by decide)
        · repeat clear Zg
        · exact b_mod (Int.natCast_pos.mpr s5)
      · repeat clear Zg
    · exact rfl
    · exact rfl
  apply ex_cons
  · apply st_as
    · apply st_openA
      · exact rfl
      apply st_swap2
      · kernel_rfl
      · exact rfl
      · repeat clear Zg
        · apply ev_slHE
          · clear Zg
          · clear Zg
          · exact .inl (getOld hB2)
          · exact lrs'
        · apply ev_slLE
          · clear Zg
          · repeat clear Zg
          · exact .inl (getOld hB2)
          · exact lrs'
        repeat clear Zg
      · exact getLE
      · exact sn_here (by kernel_rfl)
      · exact sn_here (by kernel_rfl)
    · exact rfl
    · exact rfl
  exact ex_end rfl rfl
end
section
variable {g:Gx} {n c k t i ki fi ri size:Nat} {B Q:AHeap} {ts:List AV} {cs:List Int} {a a0 a1 a2 a3:Int} {fr rs:List Nat} {s cv nr lv rv hv uv:AV}
theorem lw_fr (ht:B[t]? = some (.tup ts)) (hs:ts[i]? = some (.int (size:Nat))) (h1:B[c]? = some (.cell (some (.ob k)))) (h2:B[k]? = some (.list (cs.map .int))) (h16:cs.length=16) (s5:1≤size) (s6:size≤5) (ha:cs[5 - size]? = some a) (hl:rs.length=size) (hf:fr.length≤10) (hB1:B[fi]? = some (.list (natsA fr))) (hB2:B[ri]? = some (.list (natsA rs))):∃ Q fi' ri',
    (B++Q)[fi']? = some (.list (natsA (takeF (atF a size) (fr,rs)).1))∧(B++Q)[ri']? = some (.list (natsA (takeF (atF a size) (fr,rs)).2)) ∧
    ∀ r,Fr ⟨g,n,lwK c⟩ (lwM s cv ri' fi' nr lv rv hv uv (.int (size:Nat)) (.int (atF a size:Nat))) (B++Q) (forT lwF) (.tup t (i+1)) (whB lwF) (forO lwF) r→Fr ⟨g,n,lwK c⟩ (lwL s cv ri fi nr lv rv hv uv) B (forT lwF) (.tup t i) (whB lwF) (forO lwF) r:=by
  obtain ⟨Q,fi',ri',f1,f2,w⟩:=lw_turn (g:=g) (n:=n) (s:=s) (cv:=cv) (nr:=nr) (lv:=lv) (rv:=rv) (hv:=hv) (uv:=uv) h1 h2 h16 s5 s6 ha hl hf hB1 hB2
  refine ⟨Q,fi',ri',f1,f2,fun r q=>?_⟩
  apply fr_step
  · apply turn_tup ht hs
    · clear Zg
    · repeat clear Zg
  · exact w
  · exact q
noncomputable def ordP (i j k l:Nat):List Nat × List Nat:=takeF l (takeF k (takeF j (takeF i ([],[0,1,2,3,4]))))
theorem takeF_len {at_:Nat} {p:List Nat × List Nat} {m k:Nat} (h1:p.1.length=k) (h2:p.2.length=m+1) (h:at_ < m+1):(takeF at_ p).1.length=k+1∧(takeF at_ p).2.length=m:=by
  unfold takeF
  refine ⟨by rw [List.length_append,h1];rfl,?_⟩
  rw [List.length_append,List.length_take,List.length_drop,h2];omega
theorem drop_M {C:Cx} {tg:Expr} {it:AIter} {b o:List Stmt} {r:SOut} {x y:AV} (h:Fr C (lwL s cv ri fi nr lv rv hv uv) B tg it b o r):Fr C (lwM s cv ri fi nr lv rv hv uv x y) B tg it b o r:=
  fr_sub (sub_app (lwL s cv ri fi nr lv rv hv uv) [("size",x),("at",y)]) h
theorem ordP_len {i j k l:Nat} (hi:i < 5) (hj:j < 4) (hk:k < 3) (hl:l < 2):(ordP i j k l).1.length=4∧(ordP i j k l).2.length=1:=by
  have p1:=takeF_len (p:=([],[0,1,2,3,4])) rfl rfl hi
  have p2:=takeF_len p1.1 p1.2 hj
  have p3:=takeF_len p2.1 p2.2 hk
  exact takeF_len p3.1 p3.2 hl
theorem lw_loop4 (h1:B[c]? = some (.cell (some (.ob k)))) (h2:B[k]? = some (.list (cs.map .int))) (h16:cs.length=16) (c0:cs[0]? = some a0) (c1:cs[1]? = some a1) (c2:cs[2]? = some a2) (c3:cs[3]? = some a3) (hB1:B[fi]? = some (.list (natsA []))) (hB2:B[ri]? = some (.list (natsA [0,1,2,3,4]))):∃ E fi' ri' x y,
    (B++E)[fi']? = some (.list (natsA (ordP (atF a0 5) (atF a1 4) (atF a2 3) (atF a3 2)).1))∧(B++E)[ri']? = some (.list (natsA (ordP (atF a0 5) (atF a1 4) (atF a2 3) (atF a3 2)).2)) ∧
    St ⟨g,n,lwK c⟩ (lwL s cv ri fi nr lv rv hv uv) (B++[]) lwF ⟨.next,lwM s cv ri' fi' nr lv rv hv uv x y,B++E⟩:=by
  have t5:=(atF_eq (a:=a0) (size:=5) (by decide)).2
  have t4:=(atF_eq (a:=a1) (size:=4) (by decide)).2
  have t3:=(atF_eq (a:=a2) (size:=3) (by decide)).2
  have p1:=takeF_len (p:=([],[0,1,2,3,4])) rfl rfl t5
  have p2:=takeF_len p1.1 p1.2 t4
  have p3:=takeF_len p2.1 p2.2 t3
  have x0:(B++[.tup [.int 5,.int 4,.int 3,.int 2]])[B.length]? = some (.tup [.int 5,.int 4,.int 3,.int 2]):=get_last
  obtain ⟨Q1,f1,r1,g1,k1,e1⟩:=lw_fr (g:=g) (n:=n) (s:=s) (cv:=cv) (nr:=nr) (lv:=lv) (rv:=rv) (hv:=hv) (uv:=uv) (size:=5) (i:=0) x0 rfl (getOld h1) (getOld h2) h16 (by decide) (by decide) c0 rfl (Nat.zero_le _) (getOld hB1) (getOld hB2)
  obtain ⟨Q2,f2,r2,g2,k2,e2⟩:=lw_fr (g:=g) (n:=n) (s:=s) (cv:=cv) (nr:=nr) (lv:=lv) (rv:=rv) (hv:=hv) (uv:=uv) (size:=4) (i:=1) (getOld x0) rfl (getOld (getOld h1)) (getOld (getOld h2)) h16 (by decide) (by decide) c1 p1.2 (by rw [p1.1];decide) g1 k1
  obtain ⟨Q3,f3,r3,g3,k3,e3⟩:=lw_fr (g:=g) (n:=n) (s:=s) (cv:=cv) (nr:=nr) (lv:=lv) (rv:=rv) (hv:=hv) (uv:=uv) (size:=3) (i:=2) (getOld (getOld x0)) rfl (getOld (getOld (getOld h1))) (getOld (getOld (getOld h2))) h16 (by decide) (by decide) c2 p2.2 (by rw [p2.1];decide) g2 k2
  obtain ⟨Q4,f4,r4,g4,k4,e4⟩:=lw_fr (g:=g) (n:=n) (s:=s) (cv:=cv) (nr:=nr) (lv:=lv) (rv:=rv) (hv:=hv) (uv:=uv) (size:=2) (i:=3) (getOld (getOld (getOld x0))) rfl (getOld (getOld (getOld (getOld h1)))) (getOld (getOld (getOld (getOld h2)))) h16 (by decide) (by decide) c3 p3.2 (by rw [p3.1];decide) g3 k3
  refine ⟨[.tup [.int 5,.int 4,.int 3,.int 2]]++Q1++Q2++Q3++Q4,f4,r4,.int (2:Nat),.int (atF a3 2:Nat),?_,?_,?_⟩
  · rw [←List.append_assoc,←List.append_assoc,←List.append_assoc,←List.append_assoc];exact g4
  · rw [←List.append_assoc,←List.append_assoc,←List.append_assoc,←List.append_assoc];exact k4
  · rw [←List.append_assoc B,←List.append_assoc B,←List.append_assoc B,←List.append_assoc B]
    apply st_openF
    · exact rfl
    apply st_for
    · exact fun _ _=>rfl
    · rfl
    · apply it_open
      · exact rfl
      apply it_tup
      · repeat clear Zg
      · exact x0
    · apply e1
      apply drop_M
      apply e2
      apply drop_M
      apply e3
      apply drop_M
      apply e4
      exact fr_end (end_tup (getOld (getOld (getOld (getOld x0)))) (Nat.le_refl _)) ex_nil
end
noncomputable def zeros5:List (List Int):=[[0,0,0,0,0],[0,0,0,0,0],[0,0,0,0,0],[0,0,0,0,0],[0,0,0,0,0]]
theorem zeros_five:Five zeros5:=⟨rfl,fun m h=>by rw [List.eq_of_mem_replicate (n:=5) (a:=[(0:Int),0,0,0,0]) h];rfl⟩
noncomputable abbrev lwN (s cv:AV) (ri fi:Nat) (nr l r h u a b m o:AV):Loc:=[("script",s),("curves",cv),("rest",.ob ri),("free",.ob fi),("near",nr),("left",l),("right",r),("heights",h),("sure",u),("size",a),("at",b),("made",m),("order",o)]
section
variable {g:Gx} {n c k i fi ri oi ci li hi:Nat} {B B1 B2 B3 Q:AHeap} {fr rs:List Nat} {s cv nr lv rv hv uv x y:AV} {l:Loc}
theorem lw_made:Ev ⟨g,n,lwK c⟩ l B (eltN (asgV (sAt dLaw.body 5)) 1) (.ob B.length) (hC B zeros5 []):=by
  apply ev_openC
  · exact rfl
  apply ev_comp
  apply lc_mk (H1:=B) (it:=.range 0 1 5)
  · exact rfl
  · exact ⟨by kernel_rfl,by kernel_rfl,by kernel_rfl⟩
  · rfl
  · exact fun _ _=>rfl
  · rfl
  · exact rfl
  · apply it_r1 (b:=5) (r:=5) (fun _ _=>rfl) (by kernel_rfl)
    · repeat clear Zg
    · exact ⟨⟨by decide,by decide⟩,by decide,by decide⟩
    · rfl
  · rfl
  · rfl
  · apply ge_asH
    · repeat clear Zg
    · exact rfl
theorem lw_st5 (h1:B[fi]? = some (.list (natsA fr))) (h2:B[ri]? = some (.list (natsA rs))) (hl:(natsA fr++natsA rs).length≤100) :
    St ⟨g,n+1,lwK c⟩ (lwM s cv ri fi nr lv rv hv uv x y) B (sAt dLaw.body 5) ⟨.next,lwN s cv ri fi nr lv rv hv uv x y (.ob (B.length+1)) (.ob B.length),hC (B++[.list (natsA fr++natsA rs)]) zeros5 [.tup [.ob B.length,.ob (B.length+1)]]⟩:=by
  have cc:Call g (n+1) false B (.top 85) [.ob fi,.ob ri] [] (.ob B.length) (B++[.list (natsA fr++natsA rs)]):=c_concat h1 h2 (Nat.le_trans hl (by decide))
  have md:=lw_made (g:=g) (n:=n+1) (c:=c) (B:=B++[.list (natsA fr++natsA rs)]) (l:=lwM s cv ri fi nr lv rv hv uv x y)
  apply st_as
  · apply st_openA
    · exact rfl
    apply st_swap2 (H1:=hC (B++[.list (natsA fr++natsA rs)]) zeros5 []++[.tup [.ob B.length,.ob (B++[AObj.list (natsA fr++natsA rs)]).length]])
    · kernel_rfl
    · exact rfl
    · apply ev_tup
      · exact fun _ _=>rfl
      · apply es_cons
        · repeat clear Zg
        apply es_cons
        · exact md
        exact es_nil
      · exact Nat.le_of_ble_eq_true rfl
    · exact get_last
    · exact sn_here (by kernel_rfl)
    · exact sn_here (by kernel_rfl)
  · rw [len1];rfl
  · rw [len1,hC_app];rfl
theorem lw_st6 (h1:B[fi]? = some (.list (natsA fr))) (h2:B[ri]? = some (.list (natsA rs))) (h3:B[oi]? = some (.list (natsA fr++natsA rs))) (hl:(natsA fr++natsA rs).length≤100) (l1:l.lookup ("free" : Str)=some (.ob fi)) (l2:l.lookup ("rest" : Str)=some (.ob ri)) (l3:l.lookup ("order" : Str)=some (.ob oi)) (l4:l.lookup ("sure" : Str)=some (.bool true)) :
    St ⟨g,n,lwK c⟩ l B (sAt dLaw.body 6) ⟨.next,l,B++[.list (natsA fr++natsA rs)]⟩:=by
  apply st_openI
  · exact rfl
  apply st_f
  · apply ts_row
    apply al_go (q:=false) rfl
    · apply ts_eq
      · apply ts_not
        repeat clear Zg
      · rfl
    apply al_go (q:=false) rfl
    · apply ts_cmp (fun _=>rfl)
      · repeat clear Zg
      · apply ch_one
        · apply ev_bin
          · repeat clear Zg
          · repeat clear Zg
          · exact b_cat h1 h2 (Nat.le_trans hl (by decide))
        · exact c_ne_same (by rw [show natsA fr++natsA rs=natsA (fr++rs) from List.map_append.symm];exact natsA_ints _) (getOld h3) get_last
    exact al_nil
  · rfl
  · exact ex_nil
theorem lw_st8 (l1:l.lookup ("curves" : Str)=some (.ob ci)) (l2:l.lookup ("left" : Str)=some (.ob li)) (l3:l.lookup ("right" : Str)=some (.ob ri)) (l4:l.lookup ("heights" : Str)=some (.ob hi)) (e1:Call g n false B (.top 141) [.ob ci,.ob hi,.ob ri] [] (.bool true) B1) (e2:Call g n false B1 (.top 146) [.ob ci,.ob li,.ob ri] [] (.bool true) B2) (e3:Call g n false B2 (.top 156) [.ob ci,.ob li,.ob ri] [] (.bool true) B3) :
    St ⟨g,n,lwK c⟩ l B (sAt dLaw.body 8) ⟨.ret (.bool true),l,B3⟩:=by
  apply st_openR
  · exact rfl
  apply st_ret
  apply ev_and
  repeat clear Zg
end
noncomputable abbrev lwI:Stmt:=sAt dLaw.body 7
section
variable {g:Gx} {n c k i ki fi ri oi ci li mi rt r lo:Nat} {B B1 B2 B3 Q:AHeap} {hi os:List Nat} {s cv lv rv hv uv x y sp kp:AV} {nr:Int} {l:Loc} {z:Option AV}
theorem lw_a0 (l1:l.lookup ("order" : Str)=some (.ob oi)) (l2:l.lookup ("made" : Str)=some (.ob mi)) (e1:Call g n false B (.top 166) [.ob oi,.int 0,.int 5,.int 1,.ob mi] [] .none B1):St ⟨g,n,lwK c⟩ l B (sAt (ifB lwI) 0) ⟨.next,l,B1⟩:=by
  apply st_openE
  · exact rfl
  apply st_expr
  · exact fun _ _=>rfl
  repeat clear Zg
theorem lw_a1 (l1:l.lookup ("made" : Str)=some (.ob mi)) (l2:l.lookup ("near" : Str)=some (.int nr)) (e1:Call g n false B (.top 136) [.ob mi,.int nr] [] (.ob r) B1) (hr:B1[r]? = some (.tup [.ob lo,.ob rt,sp,kp])) (hc:B1[c+1]? = some (.cell z)) :
    St ⟨g,n,lwK c⟩ l B (sAt (ifB lwI) 1) ⟨.next,upd "kept" kp (upd "spare" sp (upd "low" (.ob lo) l)),B1.set (c+1) (.cell (some (.ob rt)))⟩:=by
  apply st_openA
  · exact rfl
  apply st_assign
  · kernel_rfl
  · kernel_rfl
  · exact fun _ _=>rfl
  · repeat clear Zg
  · apply as_tup hr
    repeat clear Zg
theorem lw_a2 (h1:B[c+1]? = some (.cell (some (.ob rt)))) (h2:B[lo]? = some (.list (natsA [0,1,2,3,4]))) (h3:B[rt]? = some (.list (natsA hi))) (h4:B[oi]? = some (.list (natsA os))) (hm:∀ k,k < 5→k∈hi) (hos:os=[posOf 0 hi,posOf 1 hi,posOf 2 hi,posOf 3 hi,posOf 4 hi]) (l1:l.lookup ("low" : Str)=some (.ob lo)) (l2:l.lookup ("order" : Str)=some (.ob oi)) :
    St ⟨g,n+1,lwK c⟩ l B (sAt (ifB lwI) 2) ⟨.next,l,B++[.list (natsA [0,1,2,3,4])]++[.list (natsA os)]⟩:=by
  have e:((intZ [0,1,2,3,4]).filter fun _=>true).map (fun j=>AV.int (posOf j.toNat hi:Nat))=natsA os:=by rw [hos];rfl
  apply st_openI
  · exact rfl
  apply st_f
  · apply ts_row
    apply al_go (q:=false) rfl
    · apply ts_cmp (fun _=>rfl)
      · repeat clear Zg
      · apply ch_one
        · apply ev_list
          · exact fun _ _=>rfl
          · repeat clear Zg
          · exact Nat.le_of_ble_eq_true rfl
        · exact c_ne_same (natsA_ints [0,1,2,3,4]) (getOld h2) get_last
    apply al_go (q:=false) rfl
    · apply ts_cmp (fun _=>rfl)
      · apply ev_comp
        apply lc_xi (H1:=B++[.list (natsA [0,1,2,3,4])]) (st:=fun j=>upd "place" (.int j) []) (hs:=intZ [0,1,2,3,4]) (q:=fun _=>true) (f:=fun j=>AV.int (posOf j.toNat hi:Nat))
        · rfl
        · exact ⟨by kernel_rfl,by kernel_rfl,by kernel_rfl⟩
        · exact fun _ _=>rfl
        · rfl
        · exact rfl
        · apply it_list
          · exact ev_loc (by kernel_rfl) l1
          · exact getOld h2
        · rfl
        · exact Yl.list (getOld h2) go_name _ 0 rfl
        · decide
        · intro j _ as
          repeat clear Zg
        · intro j _ as
          exact fs_nil
        · intro j m _ as
          obtain ⟨k,hk,rfl⟩:=List.mem_map.mp m
          have k5:k < 5:=(List.mem_range'_1.mp (show k∈List.range' 0 5 from hk)).2
          have ix:Call g (n+1) false (B++[.list (natsA [0,1,2,3,4])]++[.list as]) (.top 99) [.ob rt,.int (k:Nat)] [] (.int (posOf k hi:Nat)) (B++[.list (natsA [0,1,2,3,4])]++[.list as]):=nats_index (getOld (getOld h3)) (hm k k5)
          have g1:=getOld (E:=[.list as]) (getOld (E:=[.list (natsA [0,1,2,3,4])]) h1)
          repeat clear Zg
          exact ix
      · rw [e]
        apply ch_one
        · repeat clear Zg
        · exact c_ne_same (natsA_ints os) get_last (getOld (getOld h4))
    exact al_nil
  · rfl
  · exact ex_nil
theorem lw_7t (l1:l.lookup ("order" : Str)=some (.ob oi)) (e1:Call g n false B (.top 161) [.ob oi] [] (.bool true) B1):St ⟨g,n,lwK c⟩ l B lwI ⟨.next,l,B1⟩:=by
  apply st_openI
  · exact rfl
  apply st_f
  · apply ts_not
    repeat clear Zg
  · rfl
  · exact ex_nil
theorem lw_7f {r:SOut} (l1:l.lookup ("order" : Str)=some (.ob oi)) (e1:Call g n false B (.top 161) [.ob oi] [] (.bool false) B1) (h:Ex ⟨g,n,lwK c⟩ l B1 [sAt (ifB lwI) 0,sAt (ifB lwI) 1,sAt (ifB lwI) 2] r):St ⟨g,n,lwK c⟩ l B lwI r:=by
  apply st_openI
  · exact rfl
  apply st_t
  · apply ts_not
    repeat clear Zg
  · rfl
  · exact h
end
structure LK (B:AHeap) (o:Obj) (L:List AV) (ci li ri hi:Nat) (cids:List Nat) (cs:List (List Int)) (lf rt:List Nat) (hs:List Int):Prop where
  fx:B[0]? = some (.fix o L)
  ci_:B[ci]? = some (.list (cids.map .ob))
  cc:∀ (k:Nat) c i,cs[k]? = some c→cids[k]? = some i→B[i]? = some (.list (c.map .int))
  li_:B[li]? = some (.list (natsA lf))
  ri_:B[ri]? = some (.list (natsA rt))
  hi_:B[hi]? = some (.list (hs.map .int))
structure CurvesOk (near:Int) (cs:List (List Int)) (lf rt:List Nat):Prop where
  lfE:(lpOf (lows near cs)).map (·.2)=natsA lf
  rtE:(rpOf (highs near cs)).map (·.2)=natsA rt
  eqv:∀ (j k:Nat) c d,cs[j]? = some c→cs[k]? = some d→(c=d↔(highs near cs)[j]? = (highs near cs)[k]?)
  lf5:∀ p∈lf,p < 5∧p∈rt
  ord:∀ (a b:Nat) p q cp cq,a < b→lf[a]? = some p→lf[b]? = some q→cs[p]? = some cp→cs[q]? = some cq→if dEven cp cq=true then posOf q rt < posOf p rt else posOf p rt < posOf q rt
  read:∀ r N,Tr r N→Inv N cs 5→row1 N false=rt∧row1 N true=lf
noncomputable def OrderOk (near:Int) (os:List Nat):Prop:=barredF (intZ os)=true∨(barredF (intZ os)=false∧∃ ms hi,cutF 6 (intZ os) 0 5 1 zeros5=some ms∧(lpOf (lows near ms)).map (·.2)=natsA [0,1,2,3,4]∧(rpOf (highs near ms)).map (·.2)=natsA hi∧(∀ k,k < 5→k∈hi)∧os=[posOf 0 hi,posOf 1 hi,posOf 2 hi,posOf 3 hi,posOf 4 hi])
noncomputable def Plain:Prop:=(∀ (near:Int) (cs:List (List Int)),16≤near→cs.length=5→(∀ c∈cs,c.length=3∧∀ b∈c,-1≤b∧b≤1)→∃ lf rt,CurvesOk near cs lf rt) ∧
  ∀ (near:Int) i j k l,16≤near→i < 5→j < 4→k < 3→l < 2→OrderOk near ((ordP i j k l).1++(ordP i j k l).2)
section
variable {g:Gx} {n c ci li ri hi oi fi rsi:Nat} {B P G X:AHeap} {o:Obj} {L:List AV} {cids:List Nat} {cs:List (List Int)} {lf rt os:List Nat} {hs:List Int} {near:Int} {l:Loc} {z:Option AV} {s cv lv rv hv uv x y:AV}
theorem LK.app (h:LK B o L ci li ri hi cids cs lf rt hs):LK (B++X) o L ci li ri hi cids cs lf rt hs:=
  ⟨getOld h.fx,getOld h.ci_,fun k c i a b=>getOld (h.cc k c i a b),getOld h.li_,getOld h.ri_,getOld h.hi_⟩
theorem LK.cell (h:LK B o L ci li ri hi cids cs lf rt hs) {i:Nat} {w:AObj} (hc:B[i]? = some (.cell z)):LK (B.set i w) o L ci li ri hi cids cs lf rt hs:=
  ⟨getNeO hc h.fx rfl,getNeO hc h.ci_ rfl,fun k c i a b=>getNeO hc (h.cc k c i a b) rfl,getNeO hc h.li_ rfl,getNeO hc h.ri_ rfl,getNeO hc h.hi_ rfl⟩
theorem lw_end (h:LK B o L ci li ri hi cids cs lf rt (highs near cs)) (ok:CurvesOk near cs lf rt) (c5:cids.length=5) (s5:cs.length=5) (hc:∀ c∈cs,c.length=3) (l1:l.lookup ("curves" : Str)=some (.ob ci)) (l2:l.lookup ("left" : Str)=some (.ob li)) (l3:l.lookup ("right" : Str)=some (.ob ri)) (l4:l.lookup ("heights" : Str)=some (.ob hi)) :
    ∃ G,St ⟨g,n+6,lwK c⟩ l B (sAt dLaw.body 8) ⟨.ret (.bool true),l,B++G⟩:=by
  have len_lf:lf.length=5:=by
    have:=congrArg List.length ok.lfE
    rw [List.length_map,lpOf_len,natsA,List.length_map,lows,List.length_map,s5] at this
    exact this.symm
  have len_rt:rt.length=5:=by
    have:=congrArg List.length ok.rtE
    rw [List.length_map,rpOf_len,natsA,List.length_map,highs,List.length_map,s5] at this
    exact this.symm
  have hh:∀ (k:Nat) (c:List Int) (i:Nat),cs[k]? = some c→cids[k]? = some i→c.length=3:=fun k c i a _=>hc c (List.mem_of_getElem? a)
  have lk:LkIn B hi ri ci (highs near cs) cids cs:=⟨by rw [highs,List.length_map,s5],c5,s5,h.hi_,by rw [ok.rtE];exact h.ri_,h.ci_,h.cc,ok.eqv⟩
  obtain ⟨G1,e1⟩:=c_like (g:=g) (n:=n+2) lk
  have h1:=h.app (X:=G1)
  obtain ⟨G2,e2⟩:=c_bush (g:=g) (n:=n) (cs:=cs) (lfs:=lf) (rts:=rt) h1.ci_ c5 s5 (fun k c i a b=>⟨h1.cc k c i a b,hh k c i a b⟩) h1.li_ h1.ri_ len_lf len_rt ok.read
  have h2:=h1.app (X:=G2)
  obtain ⟨G3,e3⟩:=c_pairs (g:=g) (n:=n+4) (H:=B++G1++G2) (ci:=ci) (li:=li) (ri:=ri) (cids:=cids) (cs:=cs) (lf:=lf) (rt:=rt) ⟨s5,c5,len_lf,h2.ci_,h2.li_,h2.ri_,fun k c i a b=>⟨h2.cc k c i a b,hh k c i a b⟩,ok.lf5,ok.ord⟩
  exact ⟨G1++G2++G3,by rw [←List.append_assoc,←List.append_assoc];exact lw_st8 l1 l2 l3 l4 e1 e2 e3⟩
theorem natsA_Z (os:List Nat):natsA os=(intZ os).map .int:=by rw [List.map_map];rfl
theorem made_ids {ms:List (List Int)}:∀ (k:Nat) m i,ms[k]? = some m→[P.length+1,P.length+2,P.length+3,P.length+4,P.length+5][k]? = some i→(hC P ms G)[i]? = some (.list (m.map .int))
  | 0,m,i,h,e=>Option.some.inj e ▸ hC_get h
  | 1,m,i,h,e=>Option.some.inj e ▸ hC_get h
  | 2,m,i,h,e=>Option.some.inj e ▸ hC_get h
  | 3,m,i,h,e=>Option.some.inj e ▸ hC_get h
  | 4,m,i,h,e=>Option.some.inj e ▸ hC_get h
  | k + 5,m,i,h,e=>nomatch e
theorem lw_seven (lk:LK P o L ci li ri hi cids cs lf rt hs) (hc:P[c+1]? = some (.cell none)) (ho:P[oi]? = some (.list (natsA os))) (o5:os.length=5) (ok:OrderOk near os) (hn:-(2 ^ 64) < near∧near < 2 ^ 64):∃ B loc',
    St ⟨g,n+6,lwK c⟩ (lwN s cv rsi fi (.int near) lv rv hv uv x y (.ob P.length) (.ob oi)) (hC P zeros5 G) lwI ⟨.next,loc',B⟩∧LK B o L ci li ri hi cids cs lf rt hs∧loc'.lookup ("curves" : Str)=some cv∧loc'.lookup ("left" : Str)=some lv∧loc'.lookup ("right" : Str)=some rv∧loc'.lookup ("heights" : Str)=some hv:=by
  have ho2:P[oi]? = some (.list ((intZ os).map .int)):=by rw [←natsA_Z];exact ho
  have c5:(intZ os).length=5:=(List.length_map _).trans o5
  obtain ⟨G1,eb⟩:=c_barred (g:=g) (n:=n+5) (H:=hC P zeros5 G) c5 (hC_old ho2)
  rw [hC_app] at eb
  rcases ok with hb | ⟨hb,ms,hi',hcut,hlow,hhigh,hm,hos⟩
  · rw [hb] at eb
    exact ⟨_,_,lw_7t rfl eb,lk.app,rfl,rfl,rfl,rfl⟩
  · rw [hb] at eb
    obtain ⟨f5,G2,ec⟩:=c_cut (g:=g) (n:=n) ho2 c5 6 0 5 1 zeros5 ms (G++G1) zeros_five hcut
    obtain ⟨G3,r,es,t1,t2,t3,t4⟩:=c_sides (g:=g) (n:=n) (H:=hC P ms (G++G1++G2)) (ci:=P.length) (cs:=ms) (cids:=[P.length+1,P.length+2,P.length+3,P.length+4,P.length+5]) hn f5.len rfl hC_made made_ids
    have gc:(hC P ms (G++G1++G2)++G3)[c+1]? = some (.cell none):=getOld (hC_old hc)
    have lk2:LK (hC P ms (G++G1++G2)++G3) o L ci li ri hi cids cs lf rt hs:=lk.app.app
    rw [hlow] at t2
    rw [hhigh] at t3
    have e0:=lw_a0 (c:=c) (l:=lwN s cv rsi fi (.int near) lv rv hv uv x y (.ob P.length) (.ob oi)) rfl rfl ec
    have e1:=lw_a1 (c:=c) (l:=lwN s cv rsi fi (.int near) lv rv hv uv x y (.ob P.length) (.ob oi)) rfl rfl es t1 gc
    have e2:=lw_a2 (g:=g) (n:=n+5) (c:=c) (l:=upd "kept" (.bool true) (upd "spare" (.ob ((hC P ms (G++G1++G2)).length+3)) (upd "low" (.ob ((hC P ms (G++G1++G2)).length+4)) (lwN s cv rsi fi (.int near) lv rv hv uv x y (.ob P.length) (.ob oi))))) (getSame gc) (getNeO gc t2 rfl) (getNeO gc t3 rfl) (getNeO gc (getOld (hC_old ho)) rfl) hm hos rfl rfl
    exact ⟨_,_,lw_7f rfl eb (ex_cons e0 (ex_cons e1 (ex_cons e2 ex_nil))),((lk2.cell gc).app).app,rfl,rfl,rfl,rfl⟩
end
section
variable {g:Gx} {n c ci r f:Nat} {B B1 H:AHeap} {o:Obj} {l:List Int} {near a:Int} {s lv rv hv uv:AV} {ri fi:Nat} {cs:List Int}
theorem lw_st0 (h:H[0]? = some (.fix o (l.map .int))) (hl:l.length≤63):∃ cs:List Int,cs.length=16∧St ⟨g,n+1,lwK H.length⟩ [("script",.ob 0)] (H++[.cell none,.cell none]) (sAt dLaw.body 0) ⟨.next,[("script",.ob 0)],H++[.cell (some (.ob (H.length+2))),.cell none,mkI cs,mkI (l.take 60)]⟩:=by
  refine (c_cells (g:=g) (n:=n) (H:=H++[.cell none,.cell none]) (i:=0) (.inr ⟨o,getOld h⟩) hl).imp fun cs w=>⟨w.1,?_⟩
  have e1:=w.2
  apply st_as
  · apply st_openA
    · exact rfl
    apply st_assign
    · kernel_rfl
    · kernel_rfl
    · exact fun _ _=>rfl
    · repeat clear Zg
    · apply as_name
      exact sn_cellG (v0:=none) (by kernel_rfl) rfl (getOld (get0 rfl))
  · rfl
  · rw [lenE]
    show (H++[AObj.cell none,.cell none]++[mkI cs,mkI (l.take 60)]).set H.length _=_
    rw [app3,set0];rfl
theorem lw_st3 (e1:Call g n false B (.top 136) [.ob ci,.int near] [] (.ob r) B1) (hr:B1[r]? = some (.tup [lv,rv,hv,uv])):St ⟨g,n,lwK c⟩ [("script",s),("curves",.ob ci),("rest",.ob ri),("free",.ob fi),("near",.int near)] B (sAt dLaw.body 3) ⟨.next,lwL s (.ob ci) ri fi (.int near) lv rv hv uv,B1⟩:=by
  apply st_as
  · apply st_openA
    · exact rfl
    apply st_assign
    · kernel_rfl
    · kernel_rfl
    · exact fun _ _=>rfl
    · repeat clear Zg
    · apply as_tup hr
      repeat clear Zg
  · exact rfl
  · exact rfl
theorem bend_ok:-1≤bendF a∧bendF a≤1:=by
  have h1:=Int.fmod_nonneg_of_pos a (show (0:Int) < 3 by decide)
  have h2:=Int.fmod_lt_of_pos a (show (0:Int) < 3 by decide)
  unfold bendF;omega
theorem csF_ok (h16:cs.length=16):∀ c∈csF cs,c.length=3∧∀ b∈c,-1≤b∧b≤1:=fun c m=>by
  obtain ⟨f,hf,rfl⟩:=List.mem_map.mp m
  have f12:=(show ∀ f∈[0,3,6,9,12],f≤12 by decide) f hf
  refine ⟨?_,fun b hb=>(List.mem_map.mp hb).elim fun a q=>q.2 ▸ bend_ok⟩
  rw [List.length_map,segF,List.length_drop,List.length_take,h16];omega
theorem near_ok:16≤16+a.fmod 1000∧-(2 ^ 64) < 16+a.fmod 1000∧16+a.fmod 1000 < 2 ^ 64:=by
  have h1:=Int.fmod_nonneg_of_pos a (show (0:Int) < 1000 by decide)
  have h2:=Int.fmod_lt_of_pos a (show (0:Int) < 1000 by decide)
  omega
theorem bodyL:dLaw.body=[sAt dLaw.body 0,sAt dLaw.body 1,sAt dLaw.body 2,sAt dLaw.body 3,lwF,sAt dLaw.body 5,sAt dLaw.body 6,lwI,sAt dLaw.body 8]:=by kernel_rfl
theorem c_law (plain:Plain) (h0:H[0]? = some (.fix o (l.map .int))) (hl:l.length≤63):∃ B,B[0]? = some (.fix o (l.map .int))∧Call g (n+7) false H (.top 178) [.ob 0] [] (.bool true) B:=by
  obtain ⟨cs,h16,e0⟩:=lw_st0 (g:=g) (n:=n+5) h0 hl
  have b0:(H++[.cell (some (.ob (H.length+2))),.cell none,mkI cs,mkI (l.take 60)])[H.length]? = some (.cell (some (.ob (H.length+2)))):=get0 rfl
  have b1:(H++[.cell (some (.ob (H.length+2))),.cell none,mkI cs,mkI (l.take 60)])[H.length+1]? = some (.cell none):=getK rfl
  have b2:(H++[.cell (some (.ob (H.length+2))),.cell none,mkI cs,mkI (l.take 60)])[H.length+2]? = some (.list (cs.map .int)):=getK rfl
  have bf:=getOld (E:=[.cell (some (.ob (H.length+2))),.cell none,mkI cs,mkI (l.take 60)]) h0
  generalize H++[.cell (some (.ob (H.length+2))),.cell none,mkI cs,mkI (l.take 60)]=B0 at e0 b0 b1 b2 bf
  obtain ⟨X1,cids,e1,c5,d1,dc⟩:=lw_curves (g:=g) (n:=n+6) (l:=[("script",.ob 0)]) b0 b2 h16
  have hc3:=csF_ok h16
  have s5:(csF cs).length=5:=rfl
  generalize csF cs=ks at hc3 dc s5
  have h15:(cs.map AV.int)[(15:Int).toNat]? = some (.int (cs[15]?.getD 0)):=(List.getElem?_map ..).trans (congrArg _ (getD_get (h16.symm ▸ by decide)))
  have e2:=lw_near (g:=g) (n:=n+6) (s:=.ob 0) (cv:=.ob B0.length) (B:=B0++X1) (E:=[]) (by rw [List.append_nil];exact getOld b0) (by rw [List.append_nil];exact getOld b2) h15
  rw [List.append_nil] at e2
  obtain ⟨near16,nearU⟩:=near_ok (a:=cs[15]?.getD 0)
  generalize 16+(cs[15]?.getD 0).fmod 1000=near at e2 near16 nearU
  have q1:(B0++X1++([]++[AObj.list []]++[.list (natsA [0,1,2,3,4])]++[.tup [.int near,.ob ((B0++X1).length+0),.ob ((B0++X1).length+(0+1))]]))[(B0++X1).length+0]? = some (.list (natsA [])):=getK rfl
  have q2:(B0++X1++([]++[AObj.list []]++[.list (natsA [0,1,2,3,4])]++[.tup [.int near,.ob ((B0++X1).length+0),.ob ((B0++X1).length+(0+1))]]))[(B0++X1).length+(0+1)]? = some (.list (natsA [0,1,2,3,4])):=getK rfl
  have up2:∀ {j u},(B0++X1)[j]? = some u→(B0++X1++([]++[AObj.list []]++[.list (natsA [0,1,2,3,4])]++[.tup [.int near,.ob ((B0++X1).length+0),.ob ((B0++X1).length+(0+1))]]))[j]? = some u:=fun h=>getOld h
  replace e2:St ⟨g,n+6,lwK H.length⟩ [("script",.ob 0),("curves",.ob B0.length)] (B0++X1) (sAt dLaw.body 2) ⟨.next,[("script",.ob 0),("curves",.ob B0.length),("rest",.ob ((B0++X1).length+(0+1))),("free",.ob ((B0++X1).length+0)),("near",.int near)],B0++X1++([]++[AObj.list []]++[.list (natsA [0,1,2,3,4])]++[.tup [.int near,.ob ((B0++X1).length+0),.ob ((B0++X1).length+(0+1))]])⟩:=e2
  generalize B0++X1++([]++[AObj.list []]++[.list (natsA [0,1,2,3,4])]++[.tup [.int near,.ob ((B0++X1).length+0),.ob ((B0++X1).length+(0+1))]])=B2 at e2 q1 q2 up2
  obtain ⟨lf,rt,ck⟩:=plain.1 near ks near16 s5 hc3
  obtain ⟨G3,r3,es,t1,t2,t3,t4⟩:=c_sides (g:=g) (n:=n) (H:=B2) (cs:=ks) nearU s5 c5 (up2 d1) fun k c i a b=>up2 (dc k c i a b)
  have e3:=lw_st3 (c:=H.length) (s:=.ob 0) (ri:=(B0++X1).length+(0+1)) (fi:=(B0++X1).length+0) es t1
  rw [ck.lfE] at t2
  rw [ck.rtE] at t3
  have lk3:LK (B2++G3) o (l.map .int) B0.length (B2.length+4) (B2.length+5) (B2.length+3) cids ks lf rt (highs near ks):=⟨getOld (up2 (getOld bf)),getOld (up2 d1),fun k c i a b=>getOld (up2 (dc k c i a b)),t2,t3,t4⟩
  have ci:∀ {j},j < 16→cs[j]? = some (cs[j]?.getD 0):=fun h=>getD_get (h16.symm ▸ h)
  obtain ⟨E4,fi,ri,x,y,f1,f2,e4⟩:=lw_loop4 (g:=g) (n:=n+6) (s:=.ob 0) (cv:=.ob B0.length) (nr:=.int near) (lv:=.ob (B2.length+4)) (rv:=.ob (B2.length+5)) (hv:=.ob (B2.length+3)) (uv:=.bool true) (getOld (up2 (getOld b0))) (getOld (up2 (getOld b2))) h16 (ci (by decide)) (ci (by decide)) (ci (by decide)) (ci (by decide)) (getOld (E:=G3) q1) (getOld q2)
  rw [List.append_nil] at e4
  have a5:=(atF_eq (a:=cs[0]?.getD 0) (size:=5) (by decide)).2
  have a4:=(atF_eq (a:=cs[1]?.getD 0) (size:=4) (by decide)).2
  have a3:=(atF_eq (a:=cs[2]?.getD 0) (size:=3) (by decide)).2
  have a2:=(atF_eq (a:=cs[3]?.getD 0) (size:=2) (by decide)).2
  have oOk:=plain.2 near _ _ _ _ near16 a5 a4 a3 a2
  obtain ⟨ol1,ol2⟩:=ordP_len a5 a4 a3 a2
  generalize ordP (atF (cs[0]?.getD 0) 5) (atF (cs[1]?.getD 0) 4) (atF (cs[2]?.getD 0) 3) (atF (cs[3]?.getD 0) 2)=op at f1 f2 oOk ol1 ol2
  have lk4:=lk3.app (X:=E4)
  have c4:(B2++G3++E4)[H.length+1]? = some (.cell none):=getOld (getOld (up2 (getOld b1)))
  generalize B2++G3++E4=B4 at e4 f1 f2 lk4 c4
  have o5:(op.1++op.2).length=5:=by rw [List.length_append,ol1,ol2]
  have oA:natsA op.1++natsA op.2=natsA (op.1++op.2):=List.map_append.symm
  have hl5:(natsA op.1++natsA op.2).length≤100:=by rw [oA,natsA,List.length_map,o5];decide
  have e5:=lw_st5 (g:=g) (n:=n+5) (c:=H.length) (s:=.ob 0) (cv:=.ob B0.length) (nr:=.int near) (lv:=.ob (B2.length+4)) (rv:=.ob (B2.length+5)) (hv:=.ob (B2.length+3)) (uv:=.bool true) (x:=x) (y:=y) f1 f2 hl5
  have po:(B4++[.list (natsA op.1++natsA op.2)])[B4.length]? = some (.list (natsA op.1++natsA op.2)):=get_last
  have e6:=lw_st6 (g:=g) (n:=n+6) (c:=H.length) (l:=lwN (.ob 0) (.ob B0.length) ri fi (.int near) (.ob (B2.length+4)) (.ob (B2.length+5)) (.ob (B2.length+3)) (.bool true) x y (.ob (B4.length+1)) (.ob B4.length)) (B:=hC (B4++[.list (natsA op.1++natsA op.2)]) zeros5 [.tup [.ob B4.length,.ob (B4.length+1)]]) (hC_old (getOld f1)) (hC_old (getOld f2)) (hC_old po) hl5 rfl rfl rfl rfl
  rw [hC_app] at e6
  obtain ⟨B7,loc7,e7,lk7,w1,w2,w3,w4⟩:=lw_seven (g:=g) (n:=n) (s:=.ob 0) (cv:=.ob B0.length) (rsi:=ri) (fi:=fi) (lv:=.ob (B2.length+4)) (rv:=.ob (B2.length+5)) (hv:=.ob (B2.length+3)) (uv:=.bool true) (x:=x) (y:=y) (G:=[.tup [.ob B4.length,.ob (B4.length+1)]]++[.list (natsA op.1++natsA op.2)]) (lk4.app (X:=[.list (natsA op.1++natsA op.2)])) (getOld c4) (po.trans (by rw [oA])) o5 oOk nearU
  rw [len1] at e7
  obtain ⟨G8,e8⟩:=lw_end (g:=g) (n:=n) (c:=H.length) lk7 ck c5 s5 (fun c hc=>(hc3 c hc).1) w1 w2 w3 w4
  refine ⟨B7++G8,(lk7.app (X:=G8)).fx,?_⟩
  apply call1 (d:=dLaw) (E:=[.cell none,.cell none]) (in_tab 23 rfl) (by kernel_rfl) (bd_1 (n1:="script") (in_tab 23 rfl) (by kernel_rfl) (by decide +kernel) (fun _ _ _ _ _ _=>by kernel_rfl)) (by kernel_rfl)
  apply ex_as bodyL
  apply ex_cons
  · exact e0
  apply ex_cons
  · apply st_openA
    · exact rfl
    apply st_assignC
    · kernel_rfl
    · exact fun _ _=>rfl
    · exact e1
    · apply as_name
      exact sn_here (by kernel_rfl)
  apply ex_cons
  · exact e2
  apply ex_cons
  · exact e3
  apply ex_cons
  · exact e4
  apply ex_cons
  · exact e5
  apply ex_cons
  · exact e6
  apply ex_cons
  · exact e7
  exact ex_ret e8
end
section
variable {β:Type} {T:β→β→Prop}
noncomputable abbrev Stb (T:β→β→Prop) (a b:Int × β):Prop:=a.1 < b.1∨(a.1=b.1∧T a.2 b.2)
theorem stb_ins {k:Int} {v:β}:∀ {ps:List (Int × β)},ps.Pairwise (Stb T)→(∀ p∈ps,T p.2 v)→(sortIns k v ps).Pairwise (Stb T)
  | [],_,_=>List.pairwise_singleton ..
  | (l, u) :: r,h,ht=>by
    have h':=List.pairwise_cons.mp h
    rw [sortIns]
    by_cases hk:k < l
    · rw [if_pos hk]
      exact List.pairwise_cons.mpr ⟨fun p hp=>.inl ((List.mem_cons.mp hp).elim (fun e=>by rw [e];exact hk) fun hp=>(h'.1 p hp).elim (fun q=>Int.lt_trans hk q) fun q=>Int.lt_of_lt_of_le hk (Int.le_of_eq q.1)),h⟩
    · rw [if_neg hk]
      refine List.pairwise_cons.mpr ⟨fun p hp=>(mem_sortIns.mp hp).elim (fun e=>?_) (h'.1 p),stb_ins h'.2 fun p hp=>ht p (.tail _ hp)⟩
      rw [e]
      by_cases e:l < k
      · exact .inl e
      · exact .inr ⟨Int.le_antisymm (Int.not_lt.mp hk) (Int.not_lt.mp e),ht (l,u) (.head _)⟩
theorem stb_sortA:∀ {ps acc:List (Int × β)},acc.Pairwise (Stb T)→ps.Pairwise (fun a b=>T a.2 b.2)→(∀ p∈acc,∀ q∈ps,T p.2 q.2)→(sortA ps acc).Pairwise (Stb T)
  | [],_,h,_,_=>h
  | (k,v) :: r,acc,h,hp,hx=>by
    have h':=List.pairwise_cons.mp hp
    rw [sortA]
    exact stb_sortA (stb_ins h fun p hm=>hx p hm _ (.head _)) h'.2 fun p hm q hq=>(mem_sortIns.mp hm).elim (fun e=>by rw [e];exact h'.1 q hq) fun hm=>hx p hm q (.tail _ hq)
end
theorem pw_unique {α:Type} {R:α→α→Prop} (asym:∀ a b,R a b→¬ R b a):∀ {l1 l2:List α},l1.Pairwise R→l2.Pairwise R→(∀ x,x∈l1↔x∈l2)→l1=l2
  | [],[],_,_,_=>rfl
  | [],b :: r,_,_,h=>nomatch (h b).mpr (.head _)
  | a :: r,[],_,_,h=>nomatch (h a).mp (.head _)
  | a :: r1,b :: r2,p1,p2,h=>by
    have a':=List.pairwise_cons.mp p1
    have b':=List.pairwise_cons.mp p2
    have e:a=b:=(List.mem_cons.mp ((h a).mp (.head _))).elim id fun e=>(List.mem_cons.mp ((h b).mpr (.head _))).elim Eq.symm fun e'=>absurd (a'.1 b e') (asym _ _ (b'.1 a e))
    subst e
    rw [pw_unique asym a'.2 b'.2 fun x=>⟨fun hx=>(List.mem_cons.mp ((h x).mp (.tail _ hx))).elim (fun e=>absurd (e ▸ a'.1 x hx) (asym _ _ (e ▸ a'.1 x hx))) id,fun hx=>(List.mem_cons.mp ((h x).mpr (.tail _ hx))).elim (fun e=>absurd (e ▸ b'.1 x hx) (asym _ _ (e ▸ b'.1 x hx))) id⟩]
noncomputable def lexLt:List Int→List Int→Bool
  | x :: c,y :: d=>decide (x < y) || (x == y && lexLt c d)
  | _,_=>false
section
variable {x y near:Int} {c d:List Int}
theorem lex_lt (h:x < y):lexLt (x :: c) (y :: d)=true:=by
  show (decide (x < y) || _)=true
  rw [decide_eq_true h];rfl
theorem lex_eq:lexLt (x :: c) (x :: d)=lexLt c d:=by
  show (decide (x < x) || (x == x && lexLt c d))=lexLt c d
  rw [decide_eq_false (Int.lt_irrefl x),beq_self_eq_true];rfl
theorem lex_cases (h:lexLt (x :: c) (y :: d)=true):x < y∨(x=y∧lexLt c d=true):=by
  by_cases l:x < y
  · exact .inl l
  · by_cases e:x=y
    · subst e;exact .inr ⟨rfl,lex_eq ▸ h⟩
    · replace h:(decide (x < y) || (x == y && lexLt c d))=true:=h
      rw [decide_eq_false l,beq_eq_false_iff_ne.mpr e] at h
      exact nomatch h
theorem lex_asym:∀ {c d:List Int},lexLt c d=true→¬ lexLt d c=true
  | x :: c,y :: d,h,h'=>(lex_cases h).elim (fun l=>(lex_cases h').elim (fun l'=>Int.lt_irrefl x (Int.lt_trans l l')) fun q=>Int.lt_irrefl x (q.1 ▸ l)) fun q=>(lex_cases h').elim (fun l'=>Int.lt_irrefl x (q.1 ▸ l')) fun q'=>lex_asym q.2 q'.2
theorem lex_snoc:∀ {c d:List Int},c.length=d.length→(lexLt c d=true∨(c=d∧x < y))→lexLt (c++[x]) (d++[y])=true
  | [],[],_,h=>h.elim (fun h=>nomatch h) fun h=>lex_lt h.2
  | a :: c,b :: d,hl,h=>h.elim (fun h=>(lex_cases h).elim lex_lt fun q=>by
      rw [q.1];exact (lex_eq (x:=b)).trans (lex_snoc (Nat.succ.inj hl) (.inl q.2))) fun h=>by
      have e:=List.cons.inj h.1
      rw [e.1];exact (lex_eq (x:=b)).trans (lex_snoc (Nat.succ.inj hl) (.inr ⟨e.2,h.2⟩))
noncomputable abbrev Bd4 (c:List Int):Prop:=∀ x∈c,-4≤x∧x≤4
theorem hi_lt (hn:16≤near):∀ {c d:List Int} {a b:Int},c.length=d.length→Bd4 c→Bd4 d→a < b→highF near a c < highF near b d
  | [],[],_,_,_,_,_,h=>h
  | x :: c,y :: d,a,b,hl,hc,hd,h=>by
    have h1:=hc x (.head _)
    have h2:=hd y (.head _)
    have h3:(a+1) * near≤b * near:=Int.mul_le_mul_of_nonneg_right h (Int.le_trans (by decide) hn)
    rw [Int.add_mul,Int.one_mul] at h3
    exact hi_lt (c:=c) (d:=d) (a:=a * near+x) (b:=b * near+y) hn (Nat.succ.inj hl) (fun z m=>hc z (.tail _ m)) (fun z m=>hd z (.tail _ m)) (by omega)
theorem hi_lex (hn:16≤near):∀ {c d:List Int} (a:Int),c.length=d.length→Bd4 c→Bd4 d→(highF near a c < highF near a d↔lexLt c d=true)∧(highF near a c=highF near a d↔c=d)
  | [],[],a,_,_,_=>⟨⟨fun h=>absurd h (Int.lt_irrefl a),fun h=>nomatch h⟩,⟨fun _=>rfl,fun _=>rfl⟩⟩
  | x :: c,y :: d,a,hl,hc,hd=>by
    have hl':=Nat.succ.inj hl
    have hc':Bd4 c:=fun z m=>hc z (.tail _ m)
    have hd':Bd4 d:=fun z m=>hd z (.tail _ m)
    rw [highF,highF]
    by_cases h1:x < y
    · have l:=hi_lt hn (a:=a * near+x) (b:=a * near+y) hl' hc' hd' (Int.add_lt_add_left h1 _)
      exact ⟨⟨fun _=>lex_lt h1,fun _=>l⟩,⟨fun e=>absurd e (Int.ne_of_lt l),fun e=>absurd (List.cons.inj e).1 (Int.ne_of_lt h1)⟩⟩
    · by_cases h2:x=y
      · subst h2
        have i:=hi_lex hn (a * near+x) hl' hc' hd'
        rw [lex_eq]
        exact ⟨i.1,⟨fun e=>congrArg _ (i.2.mp e),fun e=>i.2.mpr (List.cons.inj e).2⟩⟩
      · have h3:y < x:=Int.lt_iff_le_and_ne.mpr ⟨Int.not_lt.mp h1,Ne.symm h2⟩
        have l:=hi_lt hn (a:=a * near+y) (b:=a * near+x) hl'.symm hd' hc' (Int.add_lt_add_left h3 _)
        exact ⟨⟨fun e=>absurd (Int.lt_trans e l) (Int.lt_irrefl _),fun e=>(lex_cases e).elim (fun q=>absurd q h1) fun q=>absurd q.1 h2⟩,⟨fun e=>absurd e.symm (Int.ne_of_lt l),fun e=>absurd (List.cons.inj e).1 h2⟩⟩
end
noncomputable def flipE:Nat→List Int→List Int
  | _,[]=>[]
  | p,b :: r=>(if p % 2=0 then -b else b) :: flipE (p+1) r
theorem lowF_hi (near:Int):∀ (c:List Int) (p:Nat) (a:Int),lowF near p a c=highF near a (flipE p c)
  | [],p,a=>rfl
  | b :: r,p,a=>by rw [lowF,flipE,highF,lowF_hi near r]
theorem flipE_len:∀ (c:List Int) (p:Nat),(flipE p c).length=c.length
  | [],_=>rfl
  | b :: r,p=>congrArg Nat.succ (flipE_len r (p+1))
theorem flipE_bd:∀ (c:List Int) (p:Nat),Bd4 c→Bd4 (flipE p c)
  | [],_,_,x,hx=>nomatch hx
  | b :: r,p,h,x,hx=>by
    rw [flipE] at hx
    have hb:=h b (.head _)
    refine (List.mem_cons.mp hx).elim (fun e=>?_) (flipE_bd r (p+1) (fun y m=>h y (.tail _ m)) x)
    by_cases q:p % 2=0
    · rw [if_pos q] at e;omega
    · rw [if_neg q] at e;rw [e];exact hb
noncomputable def rtN (hs:List Int):List Nat:=(sortA hs.zipIdx []).map (·.2)
noncomputable def lfN (ls:List Int):List Nat:=(sortA ls.zipIdx.reverse []).map (·.2)
theorem named_sortA (ps:List (Int × Nat)):(sortA (ps.map fun p=>(p.1,AV.int p.2)) []).map (·.2)=natsA ((sortA ps []).map (·.2)):=by
  have:=sortA_map (fun k:Nat=>AV.int k) ps []
  rw [List.map_nil] at this
  rw [←this,natsA,List.map_map,List.map_map];rfl
theorem rt_eq (hs:List Int):(rpOf hs).map (·.2)=natsA (rtN hs):=named_sortA _
theorem lf_eq (ls:List Int):(lpOf ls).map (·.2)=natsA (lfN ls):=by
  unfold lpOf named lfN
  rw [←List.map_reverse]
  exact named_sortA _
noncomputable def at5 (hs:List Int) (n:Nat):Int:=hs[n]?.getD 0
section
variable {hs:List Int} {ps:List (Int × Nat)} {T:Nat→Nat→Prop}
theorem zip_at {p:Int × Nat} (h:p∈hs.zipIdx):at5 hs p.2=p.1∧p.2 < hs.length:=by
  have:=List.mem_zipIdx_iff_getElem?.mp h
  exact ⟨by rw [at5,this];rfl,(List.getElem?_eq_some_iff.mp this).1⟩
theorem sort_mem (hp:∀ p,p∈ps↔p∈hs.zipIdx) (h5:hs.length=5) (x:Nat):x∈(sortA ps []).map (·.2)↔x < 5:=by
  constructor
  · intro h
    obtain ⟨p,hm,rfl⟩:=List.mem_map.mp h
    exact Nat.lt_of_lt_of_eq (zip_at ((hp p).mp (((mem_sortA _ _).mp hm).resolve_right fun m=>nomatch m))).2 h5
  · intro hx
    exact List.mem_map.mpr ⟨(hs[x]'(Nat.lt_of_lt_of_eq hx h5.symm),x),(mem_sortA _ _).mpr (.inl ((hp _).mpr (List.mem_zipIdx_iff_getElem?.mpr (List.getElem?_eq_getElem (Nat.lt_of_lt_of_eq hx h5.symm))))),rfl⟩
theorem sort_pw (hp:∀ p,p∈ps→p∈hs.zipIdx) (ht:ps.Pairwise fun a b=>T a.2 b.2):((sortA ps []).map (·.2)).Pairwise fun a b=>at5 hs a < at5 hs b∨(at5 hs a=at5 hs b∧T a b):=by
  rw [List.pairwise_map]
  refine List.Pairwise.imp_of_mem (fun {a b} ha hb hab=>?_) (stb_sortA (T:=T) .nil ht fun p m=>nomatch m)
  rw [(zip_at (hp _ (((mem_sortA _ _).mp ha).resolve_right fun m=>nomatch m))).1,(zip_at (hp _ (((mem_sortA _ _).mp hb).resolve_right fun m=>nomatch m))).1]
  exact hab
theorem zip_pw (h5:hs.length=5):hs.zipIdx.Pairwise fun a b=>a.2 < b.2:=by
  have:(hs.zipIdx.map (·.2)).Pairwise (· < ·):=by
    rw [List.zipIdx_map_snd,h5];decide
  exact List.pairwise_map.mp this
theorem rtN_pw (h5:hs.length=5):(rtN hs).Pairwise (fun a b=>at5 hs a < at5 hs b∨(at5 hs a=at5 hs b∧a < b))∧∀ x,x∈rtN hs↔x < 5:=
  ⟨sort_pw (T:=fun a b=>a < b) (fun _=>id) (zip_pw h5),sort_mem (fun _=>Iff.rfl) h5⟩
theorem lfN_pw (h5:hs.length=5):(lfN hs).Pairwise (fun a b=>at5 hs a < at5 hs b∨(at5 hs a=at5 hs b∧b < a))∧∀ x,x∈lfN hs↔x < 5:=
  ⟨sort_pw (T:=fun a b=>b < a) (fun _ m=>List.mem_reverse.mp m) (List.pairwise_reverse.mpr (zip_pw h5)),sort_mem (fun _=>List.mem_reverse) h5⟩
end
theorem pos_lt {R:Nat→Nat→Prop} (asym:∀ a b,R a b→¬ R b a) {l:List Nat} (h:l.Pairwise R) {p q:Nat} (hp:p∈l) (hq:q∈l) (r:R p q):posOf p l < posOf q l:=by
  have e1:=posOf_get hp
  have e2:=posOf_get hq
  rcases Nat.lt_trichotomy (posOf p l) (posOf q l) with c | c | c
  · exact c
  · rw [c,e2] at e1
    obtain rfl:=Option.some.inj e1
    exact absurd r (asym _ _ r)
  · obtain ⟨l1,g1⟩:=List.getElem?_eq_some_iff.mp e1
    obtain ⟨l2,g2⟩:=List.getElem?_eq_some_iff.mp e2
    have:=List.pairwise_iff_getElem.mp h _ _ l2 l1 c
    rw [g1,g2] at this
    exact absurd this (asym _ _ r)
noncomputable def insB (lt:Nat→Nat→Bool) (n:Nat):List Nat→List Nat
  | []=>[n]
  | a :: r=>if lt n a=true then n :: a :: r else a :: insB lt n r
noncomputable def sortB (lt:Nat→Nat→Bool):List Nat→List Nat→List Nat
  | [],acc=>acc
  | n :: r,acc=>sortB lt r (insB lt n acc)
section
variable {lt:Nat→Nat→Bool} {n x:Nat} {f:Nat→Int} {P:Nat→Prop}
theorem insB_all (hn:P n):∀ {l:List Nat},(∀ a∈l,P a)→∀ a∈insB lt n l,P a
  | [],_,a,h=>(List.mem_singleton.mp h) ▸ hn
  | b :: r,hl,a,h=>by
    rw [insB] at h
    by_cases e:lt n b=true
    · rw [if_pos e] at h
      exact (List.mem_cons.mp h).elim (fun e=>e ▸ hn) (hl a)
    · rw [if_neg e] at h
      exact (List.mem_cons.mp h).elim (fun e=>e ▸ hl b (.head _)) (insB_all hn (fun a m=>hl a (.tail _ m)) a)
theorem insB_eq:∀ {l:List Nat},(∀ a∈l,lt n a=decide (f n < f a))→sortIns (f n) n (l.map fun k=>(f k,k))=(insB lt n l).map fun k=>(f k,k)
  | [],_=>rfl
  | a :: r,h=>by
    rw [List.map_cons,sortIns,insB,h a (.head _)]
    by_cases e:f n < f a
    · rw [if_pos e,if_pos (decide_eq_true e)];rfl
    · rw [if_neg e,if_neg (ne_true_of_eq_false (decide_eq_false e)),insB_eq fun b m=>h b (.tail _ m)];rfl
theorem sortB_eq (h:∀ a b,P a→P b→lt a b=decide (f a < f b)):∀ (ns acc:List Nat),(∀ a∈ns,P a)→(∀ a∈acc,P a)→sortA (ns.map fun k=>(f k,k)) (acc.map fun k=>(f k,k))=(sortB lt ns acc).map fun k=>(f k,k)
  | [],acc,_,_=>rfl
  | n :: r,acc,h1,h2=>by
    rw [List.map_cons,sortA,sortB,insB_eq fun a m=>h n a (h1 n (.head _)) (h2 a m)]
    exact sortB_eq h r _ (fun a m=>h1 a (.tail _ m)) (insB_all (h1 n (.head _)) h2)
end
noncomputable def rowOf (ms:List (List Int)) (n:Nat):List Int:=ms[n]?.getD []
noncomputable def ltH (ms:List (List Int)) (a b:Nat):Bool:=lexLt (rowOf ms a) (rowOf ms b)
noncomputable def ltL (ms:List (List Int)) (a b:Nat):Bool:=lexLt (flipE 0 (rowOf ms a)) (flipE 0 (rowOf ms b))
structure Small (m:Nat) (ms:List (List Int)):Prop where
  len:ms.length=5
  each:∀ c∈ms,c.length=m∧Bd4 c
section
variable {ms:List (List Int)} {m a b:Nat} {near:Int}
theorem zip5 (f:List Int→Int) (h:ms.length=5):(ms.map f).zipIdx=[0,1,2,3,4].map fun k=>(f (rowOf ms k),k):=by
  obtain ⟨a,b,c,d,e,rfl⟩:=five h
  rfl
theorem Small.get (h:Small m ms) (hn:a < 5):ms[a]? = some (rowOf ms a):=getD_get (h.len.symm ▸ hn)
theorem Small.row (h:Small m ms) (hn:a < 5):(rowOf ms a).length=m∧Bd4 (rowOf ms a):=h.each _ (List.mem_of_getElem? (h.get hn))
theorem Small.hi (h:Small m ms) (hn:16≤near) (ha:a < 5) (hb:b < 5):(highF near 0 (rowOf ms a) < highF near 0 (rowOf ms b)↔lexLt (rowOf ms a) (rowOf ms b)=true)∧(highF near 0 (rowOf ms a)=highF near 0 (rowOf ms b)↔rowOf ms a=rowOf ms b):=hi_lex hn 0 ((h.row ha).1.trans (h.row hb).1.symm) (h.row ha).2 (h.row hb).2
theorem Small.lo (h:Small m ms) (hn:16≤near) (ha:a < 5) (hb:b < 5):(highF near 0 (flipE 0 (rowOf ms a)) < highF near 0 (flipE 0 (rowOf ms b))↔lexLt (flipE 0 (rowOf ms a)) (flipE 0 (rowOf ms b))=true)∧(highF near 0 (flipE 0 (rowOf ms a))=highF near 0 (flipE 0 (rowOf ms b))↔flipE 0 (rowOf ms a)=flipE 0 (rowOf ms b)):=hi_lex hn 0 (c:=flipE 0 (rowOf ms a)) (d:=flipE 0 (rowOf ms b)) (by rw [flipE_len,flipE_len];exact (h.row ha).1.trans (h.row hb).1.symm) (flipE_bd _ 0 (h.row ha).2) (flipE_bd _ 0 (h.row hb).2)
theorem dec_iff {p:Prop} [Decidable p] {b:Bool} (h:p↔b=true):b=decide p:=Bool.eq_iff_iff.mpr (h.symm.trans decide_eq_true_iff.symm)
theorem rt_sortB (h:Small m ms) (hn:16≤near):rtN (highs near ms)=sortB (ltH ms) [0,1,2,3,4] []:=by
  have e:=sortB_eq (lt:=ltH ms) (f:=fun k=>highF near 0 (rowOf ms k)) (P:=fun k=>k < 5) (fun a b ha hb=>dec_iff (h.hi hn ha hb).1) [0,1,2,3,4] [] (by decide) (fun _ m=>nomatch m)
  rw [List.map_nil] at e
  unfold rtN highs
  rw [zip5 (highF near 0) h.len,e,List.map_map]
  exact List.map_id _
theorem lf_sortB (h:Small m ms) (hn:16≤near):lfN (lows near ms)=sortB (ltL ms) [4,3,2,1,0] []:=by
  have e:=sortB_eq (lt:=ltL ms) (f:=fun k=>highF near 0 (flipE 0 (rowOf ms k))) (P:=fun k=>k < 5) (fun a b ha hb=>dec_iff (h.lo hn ha hb).1) [4,3,2,1,0] [] (by decide) (fun _ m=>nomatch m)
  rw [List.map_nil] at e
  unfold lfN lows
  rw [funext fun c=>lowF_hi near c 0 0,zip5 (fun c=>highF near 0 (flipE 0 c)) h.len,←List.map_reverse,show ([0,1,2,3,4]:List Nat).reverse=[4,3,2,1,0] from rfl,e,List.map_map]
  exact List.map_id _
end
noncomputable def smallB (ms:List (List Int)):Bool:=ms.length == 5 && ms.all fun c=>c.length == 5 && c.all fun x=>decide (-4≤x∧x≤4)
theorem small_of {ms:List (List Int)} (h:smallB ms=true):Small 5 ms:=by
  have h:=Bool.and_eq_true_iff.mp h
  exact ⟨eq_of_beq h.1,fun c hc =>
    have w:=Bool.and_eq_true_iff.mp (List.all_eq_true.mp h.2 c hc)
    ⟨eq_of_beq w.1,fun x hx=>of_decide_eq_true (List.all_eq_true.mp w.2 x hx)⟩⟩
noncomputable def checkO (os:List Nat):Bool:=barredF (intZ os) || (match cutF 6 (intZ os) 0 5 1 zeros5 with
  | some ms=>smallB ms && ((sortB (ltL ms) [4,3,2,1,0] [] == [0,1,2,3,4]) && (os == [posOf 0 (sortB (ltH ms) [0,1,2,3,4] []),posOf 1 (sortB (ltH ms) [0,1,2,3,4] []),posOf 2 (sortB (ltH ms) [0,1,2,3,4] []),posOf 3 (sortB (ltH ms) [0,1,2,3,4] []),posOf 4 (sortB (ltH ms) [0,1,2,3,4] [])]))
  | none=>false)
theorem order_of {os:List Nat} (h:checkO os=true) {near:Int} (hn:16≤near):OrderOk near os:=by
  unfold checkO at h
  cases hb:barredF (intZ os) with
  | true=>exact .inl hb
  | false =>
    rw [hb,Bool.false_or] at h
    cases hc:cutF 6 (intZ os) 0 5 1 zeros5 with
    | none=>rw [hc] at h;exact nomatch h
    | some ms =>
      rw [hc] at h
      have h1:=Bool.and_eq_true_iff.mp h
      have h2:=Bool.and_eq_true_iff.mp h1.2
      have sm:=small_of h1.1
      have p:=rtN_pw (hs:=highs near ms) ((List.length_map _).trans sm.len)
      exact .inr ⟨hb,ms,rtN (highs near ms),hc,by rw [lf_eq,lf_sortB sm hn,eq_of_beq h2.1],rt_eq _,fun k hk=>(p.2 k).mpr hk,by rw [rt_sortB sm hn];exact eq_of_beq h2.2⟩
theorem orders_ok:∀ i < 5,∀ j < 4,∀ k < 3,∀ l < 2,checkO ((ordP i j k l).1++(ordP i j k l).2)=true:=by decide +kernel
noncomputable abbrev Kf (cs:List (List Int)) (a:Nat):List Int:=rowOf cs a++[(a:Int)]
noncomputable abbrev Kt (cs:List (List Int)) (a:Nat):List Int:=flipE 0 (rowOf cs a)++[-(a:Int)]
noncomputable def Rf (cs:List (List Int)) (a b:Nat):Prop:=lexLt (Kf cs a) (Kf cs b)=true
noncomputable def Rt (cs:List (List Int)) (a b:Nat):Prop:=lexLt (Kt cs a) (Kt cs b)=true
section
variable {cs:List (List Int)} {near:Int} {N:List Nd} {r:Nat} {q:List Int} {t:Bool}
theorem Rf_asym (a b:Nat) (h:Rf cs a b):¬ Rf cs b a:=lex_asym h
theorem Rt_asym (a b:Nat) (h:Rt cs a b):¬ Rt cs b a:=lex_asym h
theorem at5_map (h:Small 3 cs) (f:List Int→Int) {a:Nat} (ha:a < 5):at5 (cs.map f) a=f (rowOf cs a):=by
  unfold at5;rw [List.getElem?_map,h.get ha];rfl
theorem rt_Rf (h:Small 3 cs) (hn:16≤near):(rtN (highs near cs)).Pairwise (Rf cs)∧∀ x,x∈rtN (highs near cs)↔x < 5:=by
  have p:=rtN_pw (hs:=highs near cs) ((List.length_map _).trans h.len)
  refine ⟨p.1.imp_of_mem fun {a b} ma mb w=>?_,p.2⟩
  have ha:=(p.2 a).mp ma
  have hb:=(p.2 b).mp mb
  unfold highs at w
  rw [at5_map h _ ha,at5_map h _ hb] at w
  exact lex_snoc ((h.row ha).1.trans (h.row hb).1.symm) (w.imp (h.hi hn ha hb).1.mp fun w=>⟨(h.hi hn ha hb).2.mp w.1,Int.ofNat_lt.mpr w.2⟩)
theorem lf_Rt (h:Small 3 cs) (hn:16≤near):(lfN (lows near cs)).Pairwise (Rt cs)∧∀ x,x∈lfN (lows near cs)↔x < 5:=by
  have p:=lfN_pw (hs:=lows near cs) ((List.length_map _).trans h.len)
  refine ⟨p.1.imp_of_mem fun {a b} ma mb w=>?_,p.2⟩
  have ha:=(p.2 a).mp ma
  have hb:=(p.2 b).mp mb
  unfold lows at w
  rw [at5_map h _ ha,at5_map h _ hb,lowF_hi,lowF_hi] at w
  exact lex_snoc (by rw [flipE_len,flipE_len];exact (h.row ha).1.trans (h.row hb).1.symm) (w.imp (h.lo hn ha hb).1.mp fun w=>⟨(h.lo hn ha hb).2.mp w.1,Int.neg_lt_neg (Int.ofNat_lt.mpr w.2)⟩)
theorem even_Rf {a b:Nat} (h:Small 3 cs) (ha:a < 5) (hb:b < 5) (w:Rt cs a b):if dEven (rowOf cs a) (rowOf cs b)=true then Rf cs b a else Rf cs a b:=by
  obtain ⟨x,y,z,e1⟩:=three (h.row ha).1
  obtain ⟨x',y',z',e2⟩:=three (h.row hb).1
  unfold Rt Kt at w
  unfold Rf Kf dEven dL
  rw [e1,e2] at w ⊢
  replace w:lexLt [-x,y,-z,-(a:Int)] [-x',y',-z',-(b:Int)]=true:=w
  show if _ then lexLt [x',y',z',(b:Int)] [x,y,z,(a:Int)]=true else lexLt [x,y,z,(a:Int)] [x',y',z',(b:Int)]=true
  by_cases h0:x=x'
  · subst h0
    rw [lex_eq] at w
    rw [List.filter_cons_of_neg (p:=fun k=>decide (([x,y,z]:List Int)[k]?.getD 0≠([x,y',z']:List Int)[k]?.getD 0)) (a:=0) (fun q=>of_decide_eq_true q rfl),lex_eq,lex_eq]
    by_cases h1:y=y'
    · subst h1
      rw [lex_eq] at w
      rw [List.filter_cons_of_neg (p:=fun k=>decide (([x,y,z]:List Int)[k]?.getD 0≠([x,y,z']:List Int)[k]?.getD 0)) (a:=1) (fun q=>of_decide_eq_true q rfl),lex_eq,lex_eq]
      by_cases h2:z=z'
      · subst h2
        rw [lex_eq] at w
        rw [List.filter_cons_of_neg (p:=fun k=>decide (([x,y,z]:List Int)[k]?.getD 0≠([x,y,z]:List Int)[k]?.getD 0)) (a:=2) (fun q=>of_decide_eq_true q rfl),lex_eq,lex_eq]
        rw [if_pos (by kernel_rfl)]
        exact (lex_cases w).elim (fun l=>lex_lt (Int.neg_lt_neg_iff.mp l)) fun q=>nomatch q.2
      · rw [List.filter_cons_of_pos (p:=fun k=>decide (([x,y,z]:List Int)[k]?.getD 0≠([x,y,z']:List Int)[k]?.getD 0)) (a:=2) (decide_eq_true (show ([x,y,z]:List Int)[2]?.getD 0≠([x,y,z']:List Int)[2]?.getD 0 from h2)),if_pos (by kernel_rfl)]
        exact (lex_cases w).elim (fun l=>lex_lt (Int.neg_lt_neg_iff.mp l)) fun q=>absurd (Int.neg_inj.mp q.1) h2
    · rw [List.filter_cons_of_pos (p:=fun k=>decide (([x,y,z]:List Int)[k]?.getD 0≠([x,y',z']:List Int)[k]?.getD 0)) (a:=1) (decide_eq_true (show ([x,y,z]:List Int)[1]?.getD 0≠([x,y',z']:List Int)[1]?.getD 0 from h1)),if_neg (by exact Bool.false_ne_true)]
      exact (lex_cases w).elim lex_lt fun q=>absurd q.1 h1
  · rw [List.filter_cons_of_pos (p:=fun k=>decide (([x,y,z]:List Int)[k]?.getD 0≠([x',y',z']:List Int)[k]?.getD 0)) (a:=0) (decide_eq_true (show ([x,y,z]:List Int)[0]?.getD 0≠([x',y',z']:List Int)[0]?.getD 0 from h0)),if_pos (by kernel_rfl)]
    exact (lex_cases w).elim (fun l=>lex_lt (Int.neg_lt_neg_iff.mp l)) fun q=>absurd (Int.neg_inj.mp q.1) h0
theorem kidsN_stb {T:Nd→Nd→Prop} (h:(N.filter (isKid q)).Pairwise T):(kidsN N q).Pairwise fun a b=>a.last < b.last∨(a.last=b.last∧T a b):=by
  unfold kidsN
  rw [List.pairwise_map]
  have e:∀ {p:Int × Nd},p∈kidsP N q→p.1=p.2.last:=fun {p} hp=>by
    obtain ⟨n,_,rfl⟩:=List.mem_map.mp (((mem_sortA _ _).mp hp).resolve_right fun m=>nomatch m)
    rfl
  refine List.Pairwise.imp_of_mem (fun {a b} ha hb hab=>by rw [←e ha,←e hb];exact hab) (stb_sortA (T:=T) .nil ?_ fun p m=>nomatch m)
  rw [List.pairwise_map]
  exact h
theorem kids_joint (T:Tr r N) (hq:q.length < 2):(kidsN N q).Pairwise fun a b=>a.last < b.last:=by
  refine List.Pairwise.imp_of_mem (fun {a b} ha hb hab=>hab.elim id fun w=>?_) (kidsN_stb ((List.pairwise_cons.mp T.nd).2.filter _))
  have a':=kidsN_mem.mp ha
  have b':=kidsN_mem.mp hb
  exact absurd (congrArg Nd.id (T.uniq a (.tail _ a'.1) b (.tail _ b'.1) (by rw [a'.2,b'.2,w.1]) (by rw [a'.2,List.length_append];exact Nat.succ_lt_succ hq))) w.2
theorem kids_leaf (i:Inv N cs 5) (hq:q.length=2):(kidsN N q).Pairwise fun a b=>a.last < b.last∨(a.last=b.last∧a.name < b.name):=by
  have e:N.filter (isKid q)=(N.filter fun n=>n.pre.length == 3).filter (isKid q):=by
    rw [List.filter_filter]
    refine List.filter_congr fun n _=>?_
    by_cases hk:isKid q n=true
    · rw [hk,isKid_iff.mp hk,List.length_append,hq];rfl
    · rw [Bool.eq_false_iff.mpr hk];rfl
  have p:((N.filter fun n=>n.pre.length == 3).map (·.name)).Pairwise (· < ·):=by rw [i.names];decide
  refine kidsN_stb ?_
  rw [e]
  exact (List.pairwise_map.mp p).filter _
theorem leaf_row (i:Inv N cs 5) (h:Small 3 cs) {n:Nd} (hn:n∈N) (hp:n.pre.length=3):n.name < 5∧rowOf cs n.name=n.pre:=by
  obtain ⟨j,c,hj,e,k,k1,k3,ep,en⟩:=i.of n hn
  have l3:=(h.each c (List.mem_of_getElem? e)).1
  have hk:k=3:=by rw [ep,List.length_take,l3,Nat.min_eq_left k3] at hp;exact hp
  rw [en hk]
  refine ⟨hj,?_⟩
  rw [ep,hk,List.take_of_length_le (Nat.le_of_eq l3),rowOf,e];rfl
theorem mem_row3 {a:Nat}:a∈row3 N t q↔∃ n∈N,n.pre=q++[n.last]∧n.name=a:=by
  unfold row3
  exact List.mem_map.trans ⟨fun ⟨n,h,e⟩=>⟨n,(kidsN_mem.mp (ordF_mem.mp h)).1,(kidsN_mem.mp (ordF_mem.mp h)).2,e⟩,fun ⟨n,h1,h2,e⟩=>⟨n,ordF_mem.mpr (kidsN_mem.mpr ⟨h1,h2⟩),e⟩⟩
theorem mem_row2 {a:Nat}:a∈row2 N t q↔∃ n∈N,n.pre=q++[n.last]∧a∈row3 N t n.pre:=by
  unfold row2
  exact List.mem_flatMap.trans ⟨fun ⟨n,h,e⟩=>⟨n,(kidsN_mem.mp (ordF_mem.mp h)).1,(kidsN_mem.mp (ordF_mem.mp h)).2,e⟩,fun ⟨n,h1,h2,e⟩=>⟨n,ordF_mem.mpr (kidsN_mem.mpr ⟨h1,h2⟩),e⟩⟩
theorem mem_row1 {a:Nat}:a∈row1 N t↔∃ n∈N,n.pre=[]++[n.last]∧a∈row2 N t n.pre:=by
  unfold row1
  exact List.mem_flatMap.trans ⟨fun ⟨n,h,e⟩=>⟨n,(kidsN_mem.mp (ordF_mem.mp h)).1,(kidsN_mem.mp (ordF_mem.mp h)).2,e⟩,fun ⟨n,h1,h2,e⟩=>⟨n,ordF_mem.mpr (kidsN_mem.mpr ⟨h1,h2⟩),e⟩⟩
theorem row3_at (i:Inv N cs 5) (h:Small 3 cs) {x y:Int} {a:Nat} (ha:a∈row3 N t [x,y]):a < 5∧∃ z,rowOf cs a=[x,y,z]:=by
  obtain ⟨n,hn,hp,rfl⟩:=mem_row3.mp ha
  have w:=leaf_row i h hn (by rw [hp];rfl)
  exact ⟨w.1,n.last,w.2.trans hp⟩
theorem row2_at (i:Inv N cs 5) (h:Small 3 cs) {x:Int} {a:Nat} (ha:a∈row2 N t [x]):a < 5∧∃ y z,rowOf cs a=[x,y,z]:=by
  obtain ⟨n,hn,hp,ha⟩:=mem_row2.mp ha
  rw [hp] at ha
  exact (row3_at i h ha).imp id fun q=>⟨n.last,q⟩
theorem row1_mem (i:Inv N cs 5) (h:Small 3 cs) (a:Nat):a∈row1 N t↔a < 5:=by
  constructor
  · intro ha
    obtain ⟨n,hn,hp,ha⟩:=mem_row1.mp ha
    rw [hp] at ha
    exact (row2_at i h ha).1
  · intro ha
    obtain ⟨x,y,z,e⟩:=three (h.row ha).1
    have e:=(h.get ha).trans (congrArg some e)
    obtain ⟨⟨n1,h1,p1⟩,⟨n2,h2,p2⟩,n3,h3,p3,d3⟩:=i.has a _ ha e
    have last:∀ {u:Nd} {q:List Int} {b:Int},u.pre=q++[b]→u.pre=q++[u.last]:=fun {u q b} e=>by
      have:u.last=b:=by unfold Nd.last;rw [e];exact List.getLastD_concat
      rw [this];exact e
    refine mem_row1.mpr ⟨n1,h1,last (b:=x) p1,?_⟩
    rw [p1]
    refine mem_row2.mpr ⟨n2,h2,last (q:=[x]) (b:=y) p2,?_⟩
    rw [p2]
    exact mem_row3.mpr ⟨n3,h3,last (q:=[x,y]) (b:=z) p3,d3⟩
end
section
variable {cs:List (List Int)} {near:Int} {N:List Nd} {r:Nat} {q:List Int} {t:Bool} {x y x' y':Int} {a b:Nat} {z z':Int}
theorem ordF_two {l:List Nd}:ordF t 2 l=l:=by cases t <;> rfl
theorem Rf_0 (ha:∃ y z,rowOf cs a=[x,y,z]) (hb:∃ y z,rowOf cs b=[x',y,z]) (h:x < x'):Rf cs a b:=by
  obtain ⟨y,z,ea⟩:=ha
  obtain ⟨y',z',eb⟩:=hb
  unfold Rf Kf;rw [ea,eb];exact lex_lt h
theorem Rt_0 (ha:∃ y z,rowOf cs a=[x,y,z]) (hb:∃ y z,rowOf cs b=[x',y,z]) (h:x' < x):Rt cs a b:=by
  obtain ⟨y,z,ea⟩:=ha
  obtain ⟨y',z',eb⟩:=hb
  unfold Rt Kt;rw [ea,eb];exact lex_lt (Int.neg_lt_neg h)
theorem Rf_1 (ha:∃ z,rowOf cs a=[x,y,z]) (hb:∃ z,rowOf cs b=[x,y',z]) (h:y < y'):Rf cs a b:=by
  obtain ⟨z,ea⟩:=ha
  obtain ⟨z',eb⟩:=hb
  unfold Rf Kf;rw [ea,eb];exact lex_eq.trans (lex_lt h)
theorem Rt_1 (ha:∃ z,rowOf cs a=[x,y,z]) (hb:∃ z,rowOf cs b=[x,y',z]) (h:y < y'):Rt cs a b:=by
  obtain ⟨z,ea⟩:=ha
  obtain ⟨z',eb⟩:=hb
  unfold Rt Kt;rw [ea,eb];exact lex_eq.trans (lex_lt h)
theorem Rf_2 (ea:rowOf cs a=[x,y]++[z]) (eb:rowOf cs b=[x,y]++[z']) (h:z < z'∨(z=z'∧a < b)):Rf cs a b:=by
  unfold Rf Kf;rw [ea,eb]
  refine lex_eq.trans (lex_eq.trans (h.elim lex_lt fun h=>?_))
  rw [h.1];exact lex_eq.trans (lex_lt (Int.ofNat_lt.mpr h.2))
theorem Rt_2 (ea:rowOf cs a=[x,y]++[z]) (eb:rowOf cs b=[x,y]++[z']) (h:z' < z∨(z'=z∧b < a)):Rt cs a b:=by
  unfold Rt Kt;rw [ea,eb]
  refine lex_eq.trans (lex_eq.trans (h.elim (fun h=>lex_lt (Int.neg_lt_neg h)) fun h=>?_))
  rw [h.1];exact lex_eq.trans (lex_lt (Int.neg_lt_neg (Int.ofNat_lt.mpr h.2)))
theorem leaf_at (i:Inv N cs 5) (h:Small 3 cs) {n:Nd} (hn:n∈kidsN N [x,y]):rowOf cs n.name=[x,y]++[n.last]:=
  have w:=kidsN_mem.mp hn
  (leaf_row i h w.1 (by rw [w.2];rfl)).2.trans w.2
theorem row3_f (i:Inv N cs 5) (h:Small 3 cs):(row3 N false [x,y]).Pairwise (Rf cs):=by
  show ((kidsN N [x,y]).map (·.name)).Pairwise (Rf cs)
  rw [List.pairwise_map]
  exact List.Pairwise.imp_of_mem (fun {a b} ha hb w=>Rf_2 (leaf_at i h ha) (leaf_at i h hb) w) (kids_leaf i rfl)
theorem row3_t (i:Inv N cs 5) (h:Small 3 cs):(row3 N true [x,y]).Pairwise (Rt cs):=by
  show ((kidsN N [x,y]).reverse.map (·.name)).Pairwise (Rt cs)
  rw [List.pairwise_map,List.pairwise_reverse]
  exact List.Pairwise.imp_of_mem (fun {a b} ha hb w=>Rt_2 (leaf_at i h hb) (leaf_at i h ha) w) (kids_leaf i rfl)
theorem row2_pw {R:Nat→Nat→Prop} (T:Tr r N) (i:Inv N cs 5) (h:Small 3 cs) (h3:∀ y,(row3 N t [x,y]).Pairwise R) (hR:∀ {a b y y'},(∃ z,rowOf cs a=[x,y,z])→(∃ z,rowOf cs b=[x,y',z])→y < y'→R a b):(row2 N t [x]).Pairwise R:=by
  unfold row2
  rw [ordF_two,List.pairwise_flatMap]
  refine ⟨fun n hn=>?_,List.Pairwise.imp_of_mem (fun {m n} hm hn hlt a ha b hb=>?_) (kids_joint T (q:=[x]) (Nat.le_refl 2))⟩
  · rw [(kidsN_mem.mp hn).2];exact h3 _
  · rw [(kidsN_mem.mp hm).2] at ha
    rw [(kidsN_mem.mp hn).2] at hb
    exact hR (row3_at i h ha).2 (row3_at i h hb).2 hlt
theorem row1_f (T:Tr r N) (i:Inv N cs 5) (h:Small 3 cs):(row1 N false).Pairwise (Rf cs):=by
  show ((kidsN N []).flatMap fun n=>row2 N false n.pre).Pairwise (Rf cs)
  rw [List.pairwise_flatMap]
  refine ⟨fun n hn=>?_,List.Pairwise.imp_of_mem (fun {m n} hm hn hlt a ha b hb=>?_) (kids_joint T (q:=[]) (by decide))⟩
  · rw [(kidsN_mem.mp hn).2]
    exact row2_pw T i h (fun y=>row3_f i h) Rf_1
  · rw [(kidsN_mem.mp hm).2] at ha
    rw [(kidsN_mem.mp hn).2] at hb
    exact Rf_0 (row2_at i h ha).2 (row2_at i h hb).2 hlt
theorem row1_t (T:Tr r N) (i:Inv N cs 5) (h:Small 3 cs):(row1 N true).Pairwise (Rt cs):=by
  show ((kidsN N []).reverse.flatMap fun n=>row2 N true n.pre).Pairwise (Rt cs)
  rw [List.pairwise_flatMap]
  refine ⟨fun n hn=>?_,?_⟩
  · rw [(kidsN_mem.mp (List.mem_reverse.mp hn)).2]
    exact row2_pw T i h (fun y=>row3_t i h) Rt_1
  · rw [List.pairwise_reverse]
    refine List.Pairwise.imp_of_mem (fun {m n} hm hn hlt a ha b hb=>?_) (kids_joint T (q:=[]) (by decide))
    rw [(kidsN_mem.mp hn).2] at ha
    rw [(kidsN_mem.mp hm).2] at hb
    exact Rt_0 (row2_at i h ha).2 (row2_at i h hb).2 hlt
theorem curves_ok (hn:16≤near) (h:Small 3 cs):CurvesOk near cs (lfN (lows near cs)) (rtN (highs near cs)):=by
  have p:=rt_Rf h hn
  have p':=lf_Rt h hn
  refine ⟨lf_eq _,rt_eq _,fun j k c d hj hk=>?_,fun p1 hp=>⟨(p'.2 p1).mp hp,(p.2 p1).mpr ((p'.2 p1).mp hp)⟩,fun a b p1 q cp cq hab ha hb hcp hcq=>?_,fun r N T i=>⟨?_,?_⟩⟩
  · have j5:j < 5:=h.len ▸ (List.getElem?_eq_some_iff.mp hj).1
    have k5:k < 5:=h.len ▸ (List.getElem?_eq_some_iff.mp hk).1
    have ej:=Option.some.inj (hj.symm.trans (h.get j5))
    have ek:=Option.some.inj (hk.symm.trans (h.get k5))
    unfold highs
    rw [List.getElem?_map,List.getElem?_map,hj,hk,ej,ek]
    exact (h.hi hn j5 k5).2.symm.trans ⟨fun e=>congrArg some e,fun e=>Option.some.inj e⟩
  · have hp:=(p'.2 p1).mp (List.mem_of_getElem? ha)
    have hq:=(p'.2 q).mp (List.mem_of_getElem? hb)
    obtain ⟨la,ga⟩:=List.getElem?_eq_some_iff.mp ha
    obtain ⟨lb,gb⟩:=List.getElem?_eq_some_iff.mp hb
    have rr:=List.pairwise_iff_getElem.mp p'.1 a b la lb hab
    rw [ga,gb] at rr
    have ev:=even_Rf h hp hq rr
    rw [Option.some.inj (hcp.symm.trans (h.get hp)),Option.some.inj (hcq.symm.trans (h.get hq))]
    by_cases e:dEven (rowOf cs p1) (rowOf cs q)=true
    · rw [if_pos e] at ev ⊢
      exact pos_lt Rf_asym p.1 ((p.2 q).mpr hq) ((p.2 p1).mpr hp) ev
    · rw [if_neg e] at ev ⊢
      exact pos_lt Rf_asym p.1 ((p.2 p1).mpr hp) ((p.2 q).mpr hq) ev
  · exact pw_unique Rf_asym (row1_f T i h) p.1 fun x=>(row1_mem i h x).trans (p.2 x).symm
  · exact pw_unique Rt_asym (row1_t T i h) p'.1 fun x=>(row1_mem i h x).trans (p'.2 x).symm
end
theorem plain:Plain:=⟨fun near cs hn h5 hc=>⟨_,_,curves_ok hn ⟨h5,fun c m=>⟨(hc c m).1,fun b hb=>⟨Int.le_trans (by decide) ((hc c m).2 b hb).1,Int.le_trans ((hc c m).2 b hb).2 (by decide)⟩⟩⟩⟩,fun near i j k l hn hi hj hk hl=>order_of (orders_ok i hi j hj k hk l hl) hn⟩
end Mine.S
namespace Mine
theorem answers:Answers:=fun w o l hl=>by
  obtain ⟨B,h0,h⟩:=S.c_law (g:=gx w) (n:=393) (H:=[.fix o (l.map .int)]) S.plain rfl hl
  cases B with
  | nil=>exact nomatch h0
  | cons x H' =>
    obtain rfl:=Option.some.inj h0
    exact ⟨H',h.run⟩
theorem done:PySem.Challenge.rw_wy0026_01.Holds:=holds_by answers
end Mine
end
theorem PySem.Challenge.cw_wy0026_01_holds : PySem.Challenge.rw_wy0026_01.Holds :=
  Mine.done
