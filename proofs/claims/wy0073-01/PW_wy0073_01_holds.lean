import PyProof.Rows.All
import Wide.All
import OpenK.AllK
import Wide.FinOn
import PySem.Challenge.RW_wy0073_01
open PySem PySem.W PyProof.Rows
set_option Elab.async false

namespace Mine
set_option maxRecDepth 100000 in
set_option maxHeartbeats 8000000 in
open_top hd for PySem.Challenge.rw_wy0073_01
-- the contracts are walked as in a text of their own: without the top's lines, which open_top has put on
theorem top_off : True := by
  w_top off
  trivial
open PySem PySem.Spec PySem.Calls PyProof.Rows PyProof.V
local macro_rules | `(tactic| k_room) => `(tactic| ktr_room)
local macro_rules | `(tactic| k_units) => `(tactic| ktr_units)
local macro_rules | `(tactic| k_enter) => `(tactic| (refine' code_def ?k1 ?k2 ?k3 ?k4 ?k5 ?kA ?kF ?kK ?k6 ?k7 ?k8 ?k9 ?kB ?_ ?c2 ?c3 ?c4 ?c5; (case kA => exact rfl); (case kF => exact rfl); (case kK => assumption); (case k1 => k_asm); (case k2 => k_asm); (case k3 => k_asm); (case k4 => k_asm); (case k5 => k_asm); (case k6 => k_is); (case k7 => k_is); (case k8 => k_room); (case k9 => first | exact BindsTo.of_eq rfl | exact binds_K (by k_in) rfl (by k_is) rfl rfl rfl | fail "k_enter: no rule for these arguments"); (case c5 => decide); (case kB => exact locs rfl); (case c2 => exact rfl); (case c3 => exact rfl); (case c4 => exact rfl); k_whole; intro g' L' h' FG' F' N' B' X' T'; (try dsimp only); (try k_lift B'); (try k_fold)))
local macro_rules | `(tactic| k_enter) => `(tactic| (refine' code_defC ?k1 ?k2 ?k3 ?k4 ?k5 ?kA ?kF ?kK ?k6 ?k7 ?k8 ?k9 ?kB ?kD ?_ ?c2 ?c3 ?c4; (case kA => exact rfl); (case kF => exact rfl); (case kK => assumption); (case k1 => k_asm); (case k2 => k_asm); (case k3 => k_asm); (case k4 => k_asm); (case k5 => k_asm); (case k6 => k_is); (case k7 => k_is); (case k8 => k_room); (case k9 => first | exact BindsTo.of_eq rfl | exact binds_K (by k_in) rfl (by k_is) rfl rfl rfl | fail "k_enter: no rule for these arguments"); (case kB => exact rfl); (case kD => decide +kernel); (case c2 => exact rfl); (case c3 => exact rfl); (case c4 => exact rfl); k_whole; intro g' L' h' tk' cells' FG' F' N' Y' B' X' T' l1; (try k_lt l1); k_cells Y'; (try simp only [List.cons_append, List.nil_append] at N'); (try dsimp only); (try k_lift B'); (try k_fold)))

section
set_option maxRecDepth 100000
open PySem PySem.Spec PySem.Calls PyProof.Rows PyProof.V Builtin Builtin.ObjectAttr

theorem fn_lk_ga : typeLookup (.type "function") "__getattribute__" = pure (some (.builtin "object.__getattribute__")) := by
  rw [typeLookup_type, builtinLookup_eq_fast]; kernel_rfl
theorem fn_lk_hook : typeLookup (.type "function") "__getattr__" = pure none := by
  rw [typeLookup_type, builtinLookup_eq_fast]; kernel_rfl
theorem fn_lk_applies : typeLookup (.type "function") "applies_to" = pure none := by
  rw [typeLookup_type, builtinLookup_eq_fast]; kernel_rfl
theorem fn_lk_allow : typeLookup (.type "function") "allowance" = pure none := by
  rw [typeLookup_type, builtinLookup_eq_fast]; kernel_rfl
theorem fn_slot_ga : Slot "function" "__getattribute__" "object.__getattribute__" :=
  .of (owner := "object") (n := "__getattribute__") fn_lk_ga (by decide +kernel) (by decide +kernel) (by decide +kernel)
    (by first | exact .inl (by decide +kernel) | exact .inr (by decide +kernel)) (by rw [isSubtype_type]; kernel_rfl)
theorem fn_entry_ga : entryFor table "object.__getattribute__" = some Builtin.«object.__getattribute__» := entryFor_of_tree (by kernel_rfl)
theorem fn_args_ga (a b : Value) : argsOk "object.__getattribute__" ⟨[a, b], []⟩ := PySem.F.args_object_getattribute_2 a b

section
variable {prog : Program} {w : World} {A : Around} {E : Value → Shared → Prop} {s : Shared}

theorem fn_own {r d : Addr} {o od : Obj} {fd : FuncData} {name : Str} {v : Value} (hn : typeLookup (.type "function") name = pure none)
    (ho : s.heap.get? r = some o) (hc : o.cls = .type "function") (hf : o.data = .func fd) (hd : o.dict = some d) (hod : s.heap.get? d = some od)
    (hl : lookIn name od = some (some v)) {Q : Found → Shared → Prop} (h : Q (.value v) s) :
    wpAny (model prog w) A (find (.ref r) (.type "function") name) Q E s := by
  unfold find
  rw [hn]
  refine wpAny_bind (wpAny_pure (wpAny_bind (wpAny_pure (wpAny_bind (wpAny_pure ?_)))))
  obtain ⟨oc, odi, oda, osl⟩ := o
  dsimp only at hc hf hd
  subst hc hf hd
  refine wpAny_bind (wpAny_bind (wpAny_bind (wpAny_loadPart ho ?_)))
  refine wpAny_bind (wpAny_loadPart ho ?_)
  refine wpAny_pure (a := some d) (wpAny_bind (wpAny_loadPart hod ?_))
  rw [nsLook_of hl]
  exact wpAny_pure (wpAny_bind (wpAny_rule (wpAny_pure h)))

theorem fn_getAttr {r d : Addr} {o od : Obj} {fd : FuncData} {name : Str} {v : Value} {expr : Bool} (hn : typeLookup (.type "function") name = pure none)
    (ho : s.heap.get? r = some o) (hc : o.cls = .type "function") (hf : o.data = .func fd) (hd : o.dict = some d) (hod : s.heap.get? d = some od)
    (hl : lookIn name od = some (some v)) (hv : handedIn v = true) {Q : Value → Shared → Prop} (h : Q v { s with toks := s.toks + 1 }) :
    wpAny (model prog w) A (getAttr (.ref r) name expr) Q E s := by
  unfold getAttr getAttrBy
  have hT : ({ s with toks := s.toks + 1 } : Shared).TypeIs (.ref r) "function" := ⟨_, ho, hc⟩
  refine wpAny_bind (wpAny_mkText (wpAny_holding (wpAny_bind (wpAny_typeOf hT (wpAny_bind (wpAny_of_eq fn_lk_ga ?_))))))
  show wpAny _ _ (getAttrByItsOwn _ _ _ _ _ _) _ _ _
  unfold getAttrByItsOwn
  refine wpAny_bind (wpAny_pure (wpAny_bind (wpAny_attempt (wpAny_holding ?_))))
  have e : callGetattribute (.ref r) (.str name s.toks) (.builtin "object.__getattribute__") expr = boundAndCalled (.builtin "object.__getattribute__") (.ref r) (.str name s.toks) := by
    unfold callGetattribute; cases expr <;> rfl
  rw [e]
  unfold boundAndCalled
  rw [fn_slot_ga.bind]
  refine wpAny_bind (wpAny_pure (wpAny_call ?_))
  refine codeAny_call_builtin fn_slot_ga.plain fn_entry_ga (fn_slot_ga.check _ _ _ _ _ _ _ _ hT (fn_args_ga _ _) ?_)
  refine wpAny_bind (wpAny_pure (wpAny_bind (wpAny_pure (wpAny_bind (wpAny_typeOf hT (wpAny_bind (fn_own (s := { s with toks := s.toks + 1 }) hn ho hc hf hd hod hl (wpAny_pure ?_))))))))
  show wpAny _ _ (handedOut v) _ _ _
  rw [handedOut_of hv]; exact wpAny_pure h

theorem fn_getMethod {r d : Addr} {o od : Obj} {fd : FuncData} {name : Str} {v : Value} {pl : Sem Bool} (hn : typeLookup (.type "function") name = pure none)
    (ho : s.heap.get? r = some o) (hc : o.cls = .type "function") (hf : o.data = .func fd) (hd : o.dict = some d) (hod : s.heap.get? d = some od)
    (hl : lookIn name od = some (some v)) (hv : handedIn v = true) {Q : Value × List Value → Shared → Prop} (h : Q (v, []) { s with toks := s.toks + 1 }) :
    wpAny (model prog w) A (getMethod (.ref r) name pl) Q E s := by
  unfold getMethod
  have hT : s.TypeIs (.ref r) "function" := ⟨_, ho, hc⟩
  refine wpAny_bind (wpAny_specialOf hT fn_lk_ga ?_)
  dsimp only
  rw [if_neg (by decide +kernel)]
  refine wpAny_bind (wpAny_specialOf hT fn_lk_hook ?_)
  rw [if_neg (by decide)]
  refine wpAny_bind (wpAny_specialOf hT hn ?_)
  exact wpAny_bind (fn_getAttr hn ho hc hf hd hod hl hv (wpAny_pure h))

theorem fn_store : StoreFacts "function" [.type "function", .type "object"] "object.__setattr__" "object" where
  mro := by kernel_rfl
  slot := .of (owner := "object") (n := "__setattr__") (by rw [typeLookup_type, builtinLookup_eq_fast]; kernel_rfl) (by decide +kernel) (by decide +kernel) (by decide +kernel)
    (by first | exact .inl (by decide +kernel) | exact .inr (by decide +kernel)) (by rw [isSubtype_type]; kernel_rfl)
  entry := PySem.F.entry_object_sa
  kind := by decide +kernel
  split := by decide +kernel
  hasOwner := by decide +kernel
  args := fun a b c => PySem.F.args_object_setattr_3 a b c
  passes := fun self => by kernel_rfl

/-- the way into object.__setattr__ for a function object -/
theorem fn_set_open {r : Addr} {o : Obj} {name : Str} {v : Value} (hn : typeLookup (.type "function") name = pure none) (ho : s.heap.get? r = some o) (hc : o.cls = .type "function") {Q : Unit → Shared → Prop}
    (h : wpAny (model prog w) A.in1 (ownDictForStores (.ref r)) (fun d s' => ∃ d', d = some d' ∧ wpAny (model prog w) A.in1 (storeInDict d' (.str name s.toks) name v) (fun fin s'' => fin = .done (.ret .none) ∧ Q () s'') E s') E { s with toks := s.toks + 1 }) :
    wpAny (model prog w) A (setAttr (.ref r) name v) Q E s := by
  have hT : ({ s with toks := s.toks + 1 } : Shared).TypeIs (.ref r) "function" := ⟨_, ho, hc⟩
  refine wpAny_bind (wpAny_mkText (wpAny_bind ?_))
  refine wpAny_callSpecial?_slot hT fn_store.slot (wpAny_call ?_)
  refine codeAny_call_builtin fn_store.slot.plain fn_store.entry (fn_store.slot.check _ _ _ _ _ _ _ _ hT (fn_store.args _ _ _) ?_)
  rw [osa_eq, refuse_eq]
  refine wpAny_bind (wpAny_bind (wpAny_typeOf hT (wpAny_bind (wpAny_of_eq fn_store.mro ?_))))
  rw [fn_store.passes]
  refine wpAny_pure (wpAny_bind (wpAny_typeOf hT (wpAny_bind (wpAny_of_eq hn (wpAny_bind (wpAny_pure ?_))))))
  show wpAny _ _ (storeInOwnDict _ _ _ _ _ _) _ _ _
  unfold storeInOwnDict
  refine wpAny_bind (wpAny_pure ?_)
  rw [if_neg (by decide)]
  refine wpAny_bind (wpAny_mono h (fun d s' hd => ?_) fun _ _ x => x)
  obtain ⟨d', rfl, hd⟩ := hd
  refine wpAny_mono hd (fun fin s'' hq => ?_) fun _ _ x => x
  obtain ⟨rfl, hq⟩ := hq
  exact wpAny_pure hq

theorem fn_put {d : Addr} {h₀ : Heap} {L : Addr} {m : Str → Option Value} {es : List DictEntry} {n : Nat} {name : Str} {tk : Tok} {v : Value} {pre post : List (Addr × Obj)}
    (F : Fr h₀ L s.heap m) (N : News h₀ L s.heap (pre ++ (d, dictOf es n) :: post)) (h1 : ∀ p ∈ pre, p.1 ≠ d) (h2 : ∀ p ∈ post, p.1 ≠ d)
    (hl : (getL name es).isSome = true) (hz : (putL name (PyData.keyHash w.params name) (.str name s.toks) v es).length ≤ 1000) {Q : Fin → Shared → Prop}
    (h : ∀ h', Fr h₀ L h' m → News h₀ L h' (pre ++ (d, dictOf (putL name (PyData.keyHash w.params name) (.str name s.toks) v es) (putN name es n)) :: post) → Q (.done (.ret .none)) { s with heap := h', toks := s.toks + 1 }) :
    wpAny (model prog w) A (storeInDict d (.str name tk) name v) Q E s := by
  have D := (N (d, dictOf es n) (by simp)).1
  have hl' : (lookIn name (dictOf es n)).isSome = true := by rw [lookIn_dict]; exact hl
  obtain ⟨U1, U2⟩ := news_upd (f := Obj.putName name (PyData.keyHash w.params name) (.str name s.toks) v) F N h1 h2 (putName_dict name _ _ v es n) rfl
  have D' := (U2 (d, _) (List.mem_append_right _ (.head _))).1
  unfold storeInDict
  refine wpAny_bind (wpAny_pure (wpAny_bind ?_))
  unfold nsSet
  refine wpAny_bind (wpAny_bind (wpAny_askSetting (wpAny_pure (wpAny_bind (wpAny_mkText (wpAny_bind (wpAny_loadPart D ?_)))))))
  dsimp only
  have c : (!(es.toArray.any (·.key.isStr name)) && es.toArray.any (·.refKey)) = false := by
    unfold getL at hl
    rw [← Array.any_toList, ← Array.any_toList]
    split at hl
    · rename_i en he
      rw [List.any_eq_true.mpr ⟨en, List.mem_of_find?_eq_some he, List.find?_some he⟩]; rfl
    · split at hl
      · cases hl
      · rename_i z; rw [Bool.not_eq_true] at z; rw [show es.toArray.toList = es from rfl, z, Bool.and_false]
  rw [aRefKeyMayBeTheName_at, c]
  refine wpAny_updatePart D ?_
  refine wpAny_bind (wpAny_lookBehind D' (pastItsLine_dict (by rw [List.size_toArray, sizeLine_eq]; omega)) ?_)
  exact wpAny_pure (h _ U1 U2)

/-- an attribute stored on a function that has none yet: its dict is made -/
theorem fn_setAttr_new {r : Addr} {fd : FuncData} {sl : Array (Option Value)} {h₀ : Heap} {L : Addr} {m : Str → Option Value} {name : Str} {v : Value} {news : List (Addr × Obj)} {g : Obj → List (Addr × Obj)}
    (hn : typeLookup (.type "function") name = pure none) (F : Fr h₀ L s.heap m) (N : News h₀ L s.heap news) (U : UpdF r ⟨.type "function", none, .func fd, sl⟩ news g) {Q : Unit → Shared → Prop}
    (h : ∀ d h', Fr h₀ L h' m → News h₀ L h' ((d, dictOf [⟨PyData.keyHash w.params name, .str name (s.toks + 1), v⟩] 1) :: g ⟨.type "function", some d, .func fd, sl⟩) → (∀ p ∈ news, p.1 < d) → Q () { s with heap := h', toks := s.toks + 2 }) :
    wpAny (model prog w) A (setAttr (.ref r) name v) Q E s := by
  obtain ⟨pre, post, rfl, hg, a, b⟩ := U.split
  have R := (N (r, _) (List.mem_append_right _ (.head _))).1
  refine fn_set_open hn R rfl ?_
  have F1 : Fr h₀ L (s.heap.push (dictOf [] 0)) m := F.push _
  have N1 := N.push F (dictOf [] 0)
  have hlt : ∀ p ∈ pre ++ (r, (⟨.type "function", none, .func fd, sl⟩ : Obj)) :: post, p.1 < s.heap.objs.size := fun p hp => Heap.lt_size (N p hp).1
  obtain ⟨F2, N2⟩ := news_upd (pre := (s.heap.objs.size, dictOf [] 0) :: pre) (post := post) (f := fun o => { o with dict := some s.heap.objs.size }) F1 N1
    (fun p hp => by
      rcases List.mem_cons.mp hp with rfl | hp
      · exact Nat.ne_of_gt (hlt (r, _) (List.mem_append_right _ (.head _)))
      · exact a p hp) b rfl rfl
  have R1 : (s.heap.push (dictOf [] 0)).get? r = some ⟨.type "function", none, .func fd, sl⟩ := Heap.get?_push_of_some _ R
  show wpAny _ _ (instanceDict r true) _ _ _
  unfold instanceDict
  refine wpAny_bind (wpAny_loadPart R ?_)
  dsimp only
  rw [if_neg (by decide)]
  refine wpAny_bind (wpAny_alloc (wpAny_bind (wpAny_update R1 ?_)))
  unfold dictMade
  dsimp only
  rw [if_neg (by decide)]
  refine wpAny_pure ⟨_, rfl, ?_⟩
  refine fn_put (pre := []) (es := []) (n := 0) (s := { s with heap := _, toks := s.toks + 1 }) F2 N2 (fun _ hp => nomatch hp) (fun p hp => ?_) rfl (by simp [putL]) fun h' F' N' => ⟨rfl, ?_⟩
  · rcases List.mem_append.mp hp with hp | hp
    · exact Nat.ne_of_lt (hlt p (List.mem_append_left _ hp))
    · rcases List.mem_cons.mp hp with rfl | hp
      · exact Nat.ne_of_lt (show r < _ from hlt (r, ⟨.type "function", none, .func fd, sl⟩) (List.mem_append_right _ (.head _)))
      · exact Nat.ne_of_lt (hlt p (List.mem_append_right _ (.tail _ hp)))
  · refine h s.heap.objs.size h' F' ?_ hlt
    rw [hg]; exact N'

/-- an attribute stored on a function that has a dict -/
theorem fn_setAttr_old {r d : Addr} {fd : FuncData} {sl : Array (Option Value)} {h₀ : Heap} {L : Addr} {m : Str → Option Value} {es es' : List DictEntry} {n n' : Nat} {name : Str} {v : Value} {news news' : List (Addr × Obj)}
    (hn : typeLookup (.type "function") name = pure none) (F : Fr h₀ L s.heap m) (N : News h₀ L s.heap news) (hr : (r, (⟨.type "function", some d, .func fd, sl⟩ : Obj)) ∈ news) (hd : (d, dictOf es n) ∈ news)
    (hl : (getL name es).isSome = true) (e : (putL name (PyData.keyHash w.params name) (.str name (s.toks + 1)) v es, putN name es n) = (es', n')) (U : Upd d (dictOf es n) (dictOf es' n') news news') (hz : es'.length ≤ 1000) {Q : Unit → Shared → Prop}
    (h : ∀ h', Fr h₀ L h' m → News h₀ L h' news' → Q () { s with heap := h', toks := s.toks + 2 }) :
    wpAny (model prog w) A (setAttr (.ref r) name v) Q E s := by
  have R := (N _ hr).1
  obtain ⟨e1, e2⟩ := Prod.mk.inj e
  subst e1 e2
  obtain ⟨pre, post, rfl, rfl, a, b⟩ := U.split
  refine fn_set_open hn R rfl ?_
  show wpAny _ _ (instanceDict r true) _ _ _
  unfold instanceDict
  refine wpAny_bind (wpAny_loadPart R ?_)
  refine wpAny_pure (a := some d) ⟨_, rfl, ?_⟩
  exact fn_put (s := { s with toks := s.toks + 1 }) F N a b hl hz fun h' F' N' => ⟨rfl, h h' F' N'⟩
end
end

section
set_option maxRecDepth 100000
open PySem PySem.Spec PySem.Calls PyProof.Rows PyProof.V

/-! ## Ledgers -/
theorem allLt_ne {d x : Nat} : ∀ {l : List (Addr × Obj)}, AllLt d l → d ≤ x → ∀ p ∈ l, p.1 ≠ x
  | [], _, _, _, hp => nomatch hp
  | _ :: _, h, hx, p, hp => by
    rcases List.mem_cons.mp hp with rfl | hp
    · exact Nat.ne_of_lt (Nat.lt_of_lt_of_le h.1 hx)
    · exact allLt_ne h.2 hx p hp
def AllGe (d : Addr) (l : List (Addr × Obj)) : Prop := ∀ p ∈ l, @LE.le Nat _ d p.1
theorem allGe_ne {d x : Nat} {l : List (Addr × Obj)} (h : AllGe d l) (hx : x < d) : ∀ p ∈ l, p.1 ≠ x :=
  fun p hp e => Nat.lt_irrefl x (Nat.lt_of_lt_of_le hx (by rw [← e]; exact h p hp))
theorem raw_ne {d x : Nat} {l : List (Addr × Obj)} (h : ∀ p ∈ l, p.1 < d) (hx : d ≤ x) : ∀ p ∈ l, p.1 ≠ x := fun p hp => Nat.ne_of_lt (Nat.lt_of_lt_of_le (h p hp) hx)
theorem forall_app {P : Addr × Obj → Prop} {l l' : List (Addr × Obj)} (h : ∀ p ∈ l, P p) (h' : ∀ p ∈ l', P p) : ∀ p ∈ l ++ l', P p := fun p hp => (List.mem_append.mp hp).elim (h p) (h' p)
theorem sub_news {h₀ h : Heap} {L : Addr} {l l' : List (Addr × Obj)} (N : News h₀ L h l) (hs : ∀ p ∈ l', p ∈ l) : News h₀ L h l' := fun p hp => N p (hs p hp)

/-- a code object of that qualified name -/
def CodeAt (news : List (Addr × Obj)) (c : Addr) (q : Str) : Prop := ∃ oc vs t, (c, oc) ∈ news ∧ oc.data = .fields vs ∧ vs[1]? = some (.str q t)
theorem CodeAt.rec {h₀ h : Heap} {L c : Addr} {q : Str} {news : List (Addr × Obj)} (x : CodeAt news c q) (N : News h₀ L h news) : h.CodeRec (.ref c) q :=
  let ⟨_, _, _, hm, hd, hv⟩ := x; codeRec_news N hm hd hv
theorem CodeAt.mono {l l' : List (Addr × Obj)} {c : Addr} {q : Str} (x : CodeAt l c q) (hs : ∀ p ∈ l, p ∈ l') : CodeAt l' c q :=
  let ⟨oc, vs, t, hm, r⟩ := x; ⟨oc, vs, t, hs _ hm, r⟩

def lamQ : Str := ("_law_rule" ++ ".<locals>.") ++ "<lambda>"

/-- the table of the code that _law_rule makes: empty, or full -/
def TabSt (l : List (Addr × Obj)) (ps : Array Value) : Prop :=
  ps = #[] ∨ ∃ c1 c2 : Addr, ps = #[rawInt 59, rawInt 11, .ref c1, rawInt 60, rawInt 22, .ref c2] ∧ CodeAt l c2 lamQ
theorem TabSt.mono {l l' : List (Addr × Obj)} {ps : Array Value} (x : TabSt l ps) (hs : ∀ p ∈ l, p ∈ l') : TabSt l' ps :=
  x.imp id fun ⟨c1, c2, e, c⟩ => ⟨c1, c2, e, c.mono hs⟩

/-- the dict of a rule: how long it matches each name -/
def LongsAt (w : World) (l : List (Addr × Obj)) (ld : Addr) (kvs : List (Str × Value)) : Prop :=
  ∃ o D, (ld, o) ∈ l ∧ (ld == sysModules) = false ∧ o.IsDictOf (strKind PySem.Challenge.pw_wy0073_01 w) kvs ∧ FlatPairs PyData.str kvs D
theorem LongsAt.mono {w : World} {l l' : List (Addr × Obj)} {ld : Addr} {kvs : List (Str × Value)} (x : LongsAt w l ld kvs) (hs : ∀ p ∈ l, p ∈ l') : LongsAt w l' ld kvs :=
  let ⟨o, D, hm, r⟩ := x; ⟨o, D, hs _ hm, r⟩

/-- what a call promises: f(args), where the ledger holds pre, gives back post -/
def Says (w : World) (k : Nat) (f : Value) (args : List Value) (pre : List (Addr × Obj) → Prop) (post : List (Addr × Obj) → Value → List (Addr × Obj) → Prop) : Prop :=
  ∀ (p : Program) (loose : List Str) (mean : ExcName → Option Value) (mg mb : Str → Option Value) (news : List (Addr × Obj))
   (dp un : Nat) (gd : Option (List Code)) (cn : Str) (cs : Scope) (a : Addr) (ccd : Value) (cl : List (Str × Addr)) (outer : List Env) (A₀ : Around) (base h₀ : Heap) (L : Addr) (m : Str → Option Value) (s : Shared) (Q E : Value → Shared → Prop),
   Below A₀ base outer h₀ → Fr h₀ L s.heap m → (Mine.hd.heap_39 w.params).In h₀ → News h₀ L s.heap news → Top p loose mean mg mb h₀ → CodeHd base 69 65 → cs.kind = .function →
   dp + 10 * k < recursionLimit → un + 100 * k < cLine → pre news →
   (∀ r news' h' tk', Fr h₀ L h' m → News h₀ L h' news' → post news r news' → Q r { s with heap := h', toks := tk' }) →
   wpAny (model PySem.Challenge.pw_wy0073_01 w) (ktrTop dp un gd cn cs L a ccd cl outer) (call f args) Q E s

/-- a rule: its function's own dict holds applies_to and allowance; applies_to reads the dict ld -/
def RuleAt (w : World) (l : List (Addr × Obj)) (r ld : Addr) (b : Bool) : Prop :=
  ∃ d f fd sl h1 t1 h2 t2, (r, (⟨.type "function", some d, .func fd, sl⟩ : Obj)) ∈ l ∧ (d, dictOf [⟨h1, .str "applies_to" t1, .ref f⟩, ⟨h2, .str "allowance" t2, .bool b⟩] 2) ∈ l ∧
    (∃ oc od fd sl, (f, (⟨oc, od, .func fd, sl⟩ : Obj)) ∈ l) ∧
    ∀ nm tn kvs v, valueAt kvs nm = some v → Says w 1 (.ref f) [.str nm tn] (fun news => (∀ p ∈ l, p ∈ news) ∧ LongsAt w news ld kvs) (fun news r news' => r = v ∧ news' = news)
theorem RuleAt.mono {w : World} {l l' : List (Addr × Obj)} {r ld : Addr} {b : Bool} (x : RuleAt w l r ld b) (hs : ∀ p ∈ l, p ∈ l') : RuleAt w l' r ld b := by
  obtain ⟨d, f, fd, sl, h1, t1, h2, t2, m1, m2, ⟨oc, od, fd', sl', m3⟩, k⟩ := x
  refine ⟨d, f, fd, sl, h1, t1, h2, t2, hs _ m1, hs _ m2, ⟨oc, od, fd', sl', hs _ m3⟩, fun nm tn kvs v hv => ?_⟩
  intro p loose mean mg mb news dp un gd cn cs a ccd cl outer A₀ base h₀ L m s Q E B F X N T C hk hd hu hp hret
  exact k nm tn kvs v hv p loose mean mg mb news dp un gd cn cs a ccd cl outer A₀ base h₀ L m s Q E B F X N T C hk hd hu ⟨fun q hq => hp.1 q (hs q hq), hp.2⟩ hret
end

section
set_option maxRecDepth 100000
open PySem PySem.Spec PySem.Calls PyProof.Rows PyProof.V
local macro_rules | `(tactic| k_all) => `(tactic| first | exact List.forall_mem_nil _ | (refine' List.forall_mem_cons.mpr ⟨?a, ?b⟩; (case a => k_ne); (case b => k_all)) | assumption | ((repeat (rename _ ∧ _ => hX; obtain ⟨hX1, hX2⟩ := hX)); first | exact allLt_ne (by assumption) (by omega) | exact raw_ne (by assumption) (by omega) | exact allGe_ne (by assumption) (by omega) | (refine forall_app ?a ?b; (case a => k_all); (case b => k_all)) | (rename AllLt _ _ => hY; clear hY; k_all) | (rename AllGe _ _ => hY; clear hY; k_all)))
local macro_rules | `(tactic| walk_at "setAttr ref") => `(tactic| (k_here; k_dflt (first
  | (refine' fn_setAttr_new ?n ?F ?N ?U ?_; (case F => k_asm); (case N => k_asm); (case U => k_updF); (case n => first | exact fn_lk_applies | exact fn_lk_allow); k_whole; intro d' h' F' N' l1; (try dsimp only at N'); (try k_lt l1))
  | (refine' fn_setAttr_old ?n ?F ?N ?r ?d ?l ?e ?U ?z ?_; (case F => k_asm); (case N => k_asm); (case r => k_mem); (case d => k_mem); (case n => first | exact fn_lk_applies | exact fn_lk_allow); (case l => rfl); (case e => k_put); (case U => k_upd); (case z => exact Nat.le_of_ble_eq_true rfl); k_whole; intro h' F' N'; (try dsimp only at N')))))

theorem ret6 {h₀ h : Heap} {L : Addr} {x1 x2 x3 x4 x5 x6 t : Addr × Obj} {rest : List (Addr × Obj)} (N : News h₀ L h (x1 :: x2 :: x3 :: x4 :: x5 :: x6 :: t :: rest)) : News h₀ L h (t :: (rest ++ [x1, x2, x3, x4, x5, x6])) :=
  sub_news N fun p hp => by simp only [List.mem_cons, List.mem_append, List.not_mem_nil, or_false] at hp ⊢; grind
theorem ret4 {h₀ h : Heap} {L : Addr} {x1 x2 x3 x4 t : Addr × Obj} {rest : List (Addr × Obj)} (N : News h₀ L h (x1 :: x2 :: x3 :: x4 :: t :: rest)) : News h₀ L h (t :: (rest ++ [x1, x2, x3, x4])) :=
  sub_news N fun p hp => by simp only [List.mem_cons, List.mem_append, List.not_mem_nil, or_false] at hp ⊢; grind

set_option maxHeartbeats 4000000 in
theorem rule_first {p : Program} {loose : List Str} {mean : ExcName → Option Value} {mg mb : Str → Option Value} {w : World}
   (dp un : Nat) (gd : Option (List Code)) (cn : Str) (cs : Scope) (a : Addr) (ccd : Value) (cl : List (Str × Addr)) (outer : List Env) (A₀ : Around) (base h₀ : Heap) (L : Addr) (m : Str → Option Value) (s : Shared) (Q E : Value → Shared → Prop) (K0 rest : List (Addr × Obj)) (ld : Addr) (b : Bool)
    (B : Below A₀ base outer h₀) (F : Fr h₀ L s.heap m) (X : (Mine.hd.heap_39 w.params).In h₀) (N : News h₀ L s.heap ((65, tabObj #[]) :: rest)) (T : Top p loose mean mg mb h₀) (C : CodeHd base 69 65) (hk : cs.kind = .function)
    (hr : ∀ q ∈ rest, q.1 ≠ 65) (hdp : dp + 20 < recursionLimit) (hun : un + 200 < cLine)
    (hret : ∀ r ps' tl c h' tk', Fr h₀ L h' m → News h₀ L h' ((65, tabObj ps') :: (rest ++ tl)) → AllLt c ((65, tabObj ps') :: rest) → AllGe c tl → TabSt (K0 ++ tl) ps' → RuleAt w (K0 ++ tl) r ld b → Q (.ref r) { s with heap := h', toks := tk' }) :
    wpAny (model PySem.Challenge.pw_wy0073_01 w) (ktrTop dp un gd cn cs L a ccd cl outer) (call (.ref 70) [.ref ld, .bool b]) Q E s := by
  refine wpAny_call ?_
  k_enter
  rename 65 < _ ∧ AllLt _ _ => hl1
  k_steps
  rename News _ _ _ _ => NN
  refine hret _ _ _ _ _ _ (by k_asm) (ret6 NN) hl1 ?_ (.inr ⟨_, _, rfl, _, _, _, List.mem_append_right _ (by k_mem), by assumption, by assumption⟩) ⟨_, _, _, _, _, _, _, _, List.mem_append_right _ (by k_mem), List.mem_append_right _ (by k_mem), ⟨_, _, _, _, List.mem_append_right _ (by k_mem)⟩, ?_⟩
  · intro p hp
    simp only [List.mem_cons, List.not_mem_nil, or_false] at hp
    rcases hp with rfl | rfl | rfl | rfl | rfl | rfl <;> dsimp only <;> omega
  · intro nm tn kvs v hv p loose mean mg mb news dp un gd cn cs a ccd cl outer A₀ base h₀ L m s Q E B F X N T C hk hd hu hp hret
    obtain ⟨hsub, o, D, m9, lo, hdo, hfl⟩ := hp
    have m1 := hsub _ (List.mem_append_right K0 (List.Mem.tail _ (List.Mem.head _)))
    have m2 := hsub _ (List.mem_append_right K0 (List.Mem.tail _ (List.Mem.tail _ (List.Mem.head _))))
    have m6 := hsub _ (List.mem_append_right K0 (List.Mem.tail _ (List.Mem.tail _ (List.Mem.tail _ (List.Mem.tail _ (List.Mem.tail _ (List.Mem.head _)))))))
    refine wpAny_call ?_
    (refine' kla_code ?k1 ?k2 ?k3 ?k4 ?k5 ?kA ?kF ?kK ?k6 ?k7 ?k8 ?k9 ?kB ?_ ?c2 ?c3 ?c4 ?c5; (case kA => exact rfl); (case kF => exact rfl); (case kK => assumption); (case k1 => k_asm); (case k2 => k_asm); (case k3 => k_asm); (case k4 => k_asm); (case k5 => k_asm); (case k6 => k_mem); (case k7 => exact codeRec_news (by k_asm) (by k_mem) (by assumption) (by assumption)); (case k8 => k_room); (case k9 => exact rfl); (case c5 => decide); (case kB => exact locs rfl); (case c2 => exact rfl); (case c3 => exact rfl); (case c4 => exact rfl); k_whole; intro g' L' h' FG' F' N' B' X' T'; (try dsimp only); (try k_lift B'); (try k_fold))
    k_steps
    rename Fr g' _ _ _ => F'
    rename News g' _ _ _ => N'
    refine wpAny_getItem_of (knd := strKind _ _) (strKind_is _ _ _ _) (Heap.dictOf_iff.mpr ⟨o, (N' _ m9).1, hdo⟩).mapOf hv ?_
    k_steps
    exact hret _ _ _ _ (by k_asm) (by k_asm) ⟨rfl, rfl⟩

set_option maxHeartbeats 4000000 in
theorem rule_again {p : Program} {loose : List Str} {mean : ExcName → Option Value} {mg mb : Str → Option Value} {w : World}
   (dp un : Nat) (gd : Option (List Code)) (cn : Str) (cs : Scope) (a : Addr) (ccd : Value) (cl : List (Str × Addr)) (outer : List Env) (A₀ : Around) (base h₀ : Heap) (L : Addr) (m : Str → Option Value) (s : Shared) (Q E : Value → Shared → Prop) (K0 rest : List (Addr × Obj)) (ld : Addr) (b : Bool) (c1 c2 : Addr) (hc2 : CodeAt K0 c2 lamQ)
    (B : Below A₀ base outer h₀) (F : Fr h₀ L s.heap m) (X : (Mine.hd.heap_39 w.params).In h₀) (N : News h₀ L s.heap ((65, tabObj #[rawInt 59, rawInt 11, .ref c1, rawInt 60, rawInt 22, .ref c2]) :: rest)) (T : Top p loose mean mg mb h₀) (C : CodeHd base 69 65) (hk : cs.kind = .function)
    (hr : ∀ q ∈ rest, q.1 ≠ 65) (hdp : dp + 20 < recursionLimit) (hun : un + 200 < cLine)
    (hret : ∀ r ps' tl c h' tk', Fr h₀ L h' m → News h₀ L h' ((65, tabObj ps') :: (rest ++ tl)) → AllLt c ((65, tabObj ps') :: rest) → AllGe c tl → TabSt (K0 ++ tl) ps' → RuleAt w (K0 ++ tl) r ld b → Q (.ref r) { s with heap := h', toks := tk' }) :
    wpAny (model PySem.Challenge.pw_wy0073_01 w) (ktrTop dp un gd cn cs L a ccd cl outer) (call (.ref 70) [.ref ld, .bool b]) Q E s := by
  refine wpAny_call ?_
  k_enter
  rename 65 < _ ∧ AllLt _ _ => hl1
  k_steps
  rename News _ _ _ _ => NN
  refine hret _ _ _ _ _ _ (by k_asm) (ret4 NN) hl1 ?_ (.inr ⟨c1, c2, rfl, hc2.mono fun p hp => List.mem_append_left _ hp⟩) ⟨_, _, _, _, _, _, _, _, List.mem_append_right _ (by k_mem), List.mem_append_right _ (by k_mem), ⟨_, _, _, _, List.mem_append_right _ (by k_mem)⟩, ?_⟩
  · intro p hp
    simp only [List.mem_cons, List.not_mem_nil, or_false] at hp
    rcases hp with rfl | rfl | rfl | rfl <;> dsimp only <;> omega
  · obtain ⟨oc2, vs2, t2, hm2, hd2, hv2⟩ := hc2
    intro nm tn kvs v hv p loose mean mg mb news dp un gd cn cs a ccd cl outer A₀ base h₀ L m s Q E B F X N T C hk hd hu hp hret
    obtain ⟨hsub, o, D, m9, lo, hdo, hfl⟩ := hp
    have m1 := hsub _ (List.mem_append_right K0 (List.Mem.tail _ (List.Mem.head _)))
    have m2 := hsub _ (List.mem_append_left _ hm2)
    have m6 := hsub _ (List.mem_append_right K0 (List.Mem.tail _ (List.Mem.tail _ (List.Mem.tail _ (List.Mem.head _)))))
    refine wpAny_call ?_
    (refine' kla_code ?k1 ?k2 ?k3 ?k4 ?k5 ?kA ?kF ?kK ?k6 ?k7 ?k8 ?k9 ?kB ?_ ?c2 ?c3 ?c4 ?c5; (case kA => exact rfl); (case kF => exact rfl); (case kK => assumption); (case k1 => k_asm); (case k2 => k_asm); (case k3 => k_asm); (case k4 => k_asm); (case k5 => k_asm); (case k6 => k_mem); (case k7 => exact codeRec_news (by k_asm) (by k_mem) (by assumption) (by assumption)); (case k8 => k_room); (case k9 => exact rfl); (case c5 => decide); (case kB => exact locs rfl); (case c2 => exact rfl); (case c3 => exact rfl); (case c4 => exact rfl); k_whole; intro g' L' h' FG' F' N' B' X' T'; (try dsimp only); (try k_lift B'); (try k_fold))
    k_steps
    rename Fr g' _ _ _ => F'
    rename News g' _ _ _ => N'
    refine wpAny_getItem_of (knd := strKind _ _) (strKind_is _ _ _ _) (Heap.dictOf_iff.mpr ⟨o, (N' _ m9).1, hdo⟩).mapOf hv ?_
    k_steps
    exact hret _ _ _ _ (by k_asm) (by k_asm) ⟨rfl, rfl⟩

/-- _law_rule, whatever has been made -/
theorem rule_call {p : Program} {loose : List Str} {mean : ExcName → Option Value} {mg mb : Str → Option Value} {w : World}
   (dp un : Nat) (gd : Option (List Code)) (cn : Str) (cs : Scope) (a : Addr) (ccd : Value) (cl : List (Str × Addr)) (outer : List Env) (A₀ : Around) (base h₀ : Heap) (L : Addr) (m : Str → Option Value) (s : Shared) (Q E : Value → Shared → Prop) (K0 rest : List (Addr × Obj)) (ld : Addr) (b : Bool) (ps : Array Value) (hps : TabSt K0 ps)
    (B : Below A₀ base outer h₀) (F : Fr h₀ L s.heap m) (X : (Mine.hd.heap_39 w.params).In h₀) (N : News h₀ L s.heap ((65, tabObj ps) :: rest)) (T : Top p loose mean mg mb h₀) (C : CodeHd base 69 65) (hk : cs.kind = .function)
    (hr : ∀ q ∈ rest, q.1 ≠ 65) (hdp : dp + 20 < recursionLimit) (hun : un + 200 < cLine)
    (hret : ∀ r ps' tl c h' tk', Fr h₀ L h' m → News h₀ L h' ((65, tabObj ps') :: (rest ++ tl)) → AllLt c ((65, tabObj ps') :: rest) → AllGe c tl → TabSt (K0 ++ tl) ps' → RuleAt w (K0 ++ tl) r ld b → Q (.ref r) { s with heap := h', toks := tk' }) :
    wpAny (model PySem.Challenge.pw_wy0073_01 w) (ktrTop dp un gd cn cs L a ccd cl outer) (call (.ref 70) [.ref ld, .bool b]) Q E s := by
  rcases hps with rfl | ⟨c1, c2, rfl, hc⟩
  · exact rule_first dp un gd cn cs a ccd cl outer A₀ base h₀ L m s Q E K0 rest ld b B F X N T C hk hr hdp hun hret
  · exact rule_again dp un gd cn cs a ccd cl outer A₀ base h₀ L m s Q E K0 rest ld b c1 c2 hc B F X N T C hk hr hdp hun hret

theorem allLt_perm {d : Nat} {l l' : List (Addr × Obj)} (h : AllLt d l) (hs : ∀ p ∈ l', ∃ q ∈ l, q.1 = p.1) : AllLt d l' :=
  allLt_of fun p hp => by
    obtain ⟨q, hq, e⟩ := hs p hp
    have := (show ∀ q ∈ l, @LT.lt Nat _ q.1 d from ?_) q hq
    · rw [e] at this; exact this
    · clear hs hq e hp p q l'
      induction l with
      | nil => intro _ hq; cases hq
      | cons x r ih =>
        intro q hq
        rcases List.mem_cons.mp hq with rfl | hq
        · exact h.1
        · exact ih h.2 q hq

/-- _law_rule, the table anywhere in the ledger; what is known of its code stands in K0 -/
theorem rule_callU {p : Program} {loose : List Str} {mean : ExcName → Option Value} {mg mb : Str → Option Value} {w : World}
   {dp un : Nat} {gd : Option (List Code)} {cn : Str} {cs : Scope} {a : Addr} {ccd : Value} {cl : List (Str × Addr)} {outer : List Env} {A₀ : Around} {base h₀ : Heap} {L : Addr} {m : Str → Option Value} {s : Shared} {Q E : Value → Shared → Prop} {news : List (Addr × Obj)} {g : Obj → List (Addr × Obj)} {ld : Addr} {b : Bool} {ps : Array Value} (K0 : List (Addr × Obj)) (hps : TabSt K0 ps)
    (B : Below A₀ base outer h₀) (F : Fr h₀ L s.heap m) (X : (Mine.hd.heap_39 w.params).In h₀) (N : News h₀ L s.heap news) (U : UpdF 65 (tabObj ps) news g) (T : Top p loose mean mg mb h₀) (C : CodeHd base 69 65) (hk : cs.kind = .function)
    (hdp : dp + 20 < recursionLimit) (hun : un + 200 < cLine)
    (hret : ∀ r ps' tl c h' tk', Fr h₀ L h' m → News h₀ L h' (g (tabObj ps') ++ tl) → AllLt c (g (tabObj ps')) → AllGe c tl → TabSt (K0 ++ tl) ps' → RuleAt w (K0 ++ tl) r ld b → Q (.ref r) { s with heap := h', toks := tk' }) :
    wpAny (model PySem.Challenge.pw_wy0073_01 w) (ktrTop dp un gd cn cs L a ccd cl outer) (call (.ref 70) [.ref ld, .bool b]) Q E s := by
  obtain ⟨pre, post, rfl, hg, h1, h2⟩ := U.split
  refine rule_call dp un gd cn cs a ccd cl outer A₀ base h₀ L m s Q E K0 (pre ++ post) ld b ps hps B F X (sub_news N fun q hq => ?_) T C hk (fun q hq => ?_) hdp hun fun r ps' tl c h' tk' F' N' l1 l2 S R => ?_
  · simp only [List.mem_cons, List.mem_append] at hq ⊢; grind
  · rcases List.mem_append.mp hq with hq | hq
    · exact h1 q hq
    · exact h2 q hq
  · refine hret r ps' tl c h' tk' F' ?_ ?_ l2 S R
    · rw [hg]; exact sub_news N' fun q hq => by simp only [List.mem_cons, List.mem_append] at hq ⊢; grind
    · rw [hg]
      exact allLt_perm l1 fun q hq => ⟨q, by simp only [List.mem_cons, List.mem_append] at hq ⊢; grind, rfl⟩
end

section
set_option maxRecDepth 100000
open PySem PySem.Spec PySem.Calls PyProof.Rows PyProof.V

/-! ## A loop over a list that the turns let stand -/
def TEnd (h₀ : Heap) (L I : Addr) (oI : Obj) (J : (Str → Option Value) → List (Addr × Obj) → Prop) (s₁ s₂ : Shared) : Prop :=
  ∃ h' tk m' nx', s₂ = { s₁ with heap := h', toks := tk } ∧ Fr h₀ L h' m' ∧ News h₀ L h' ((I, oI) :: nx') ∧ (∀ q ∈ nx', q.1 ≠ I) ∧ J m' nx'
def TPost (h₀ : Heap) (L I : Addr) (oI : Obj) (J : (Str → Option Value) → List (Addr × Obj) → Prop) (s₁ : Shared) (Q : Flow → Shared → Prop) (f : Flow) (s₂ : Shared) : Prop :=
  match f with
  | .ret v => Q (.ret v) s₂
  | .brk => Q .next s₂
  | _ => TEnd h₀ L I oI J s₁ s₂
section
variable {prog : Program} {w : World} {A : Around} {E : Value → Shared → Prop} {s : Shared} {env : Env} {h₀ : Heap} {x : Str} {body : List Stmt} {Q : Flow → Shared → Prop}
theorem loop_list {l : Addr} {lo : Obj} {items : Array Value} {n : Nat} {m₀ : Str → Option Value} {news : List (Addr × Obj)} (J : Nat → (Str → Option Value) → List (Addr × Obj) → Prop)
    (hh : A.handled = none) (hc : lo.cls = .type "list") (hd : lo.data = .seq items n)
    (hkeep : ∀ i m nx h, J i m nx → (∀ b o, h₀.get? b = some o → h.get? b = some o) → News h₀ env.locals h nx → h.get? l = some lo)
    (F : Fr h₀ env.locals s.heap m₀) (N : News h₀ env.locals s.heap news) (hj : J 0 m₀ news)
    (turn : ∀ i v I oI m₁ nx h tk, items[i]? = some v → J i m₁ nx → (∀ q ∈ nx, q.1 ≠ I) → Fr h₀ env.locals h (fun y => if y = x then some v else m₁ y) → News h₀ env.locals h ((I, oI) :: nx) →
      wpAny (model prog w) A (execs body env) (TPost h₀ env.locals I oI (J (i + 1)) { s with heap := h, toks := tk } Q) E { s with heap := h, toks := tk })
    (done : ∀ m₁ nx h tk, J items.size m₁ nx → Fr h₀ env.locals h m₁ → News h₀ env.locals h nx → Q .next { s with heap := h, toks := tk }) :
    wpAny (model prog w) A (pyIter (.ref l)) (fun it s₂ => LoopAtV prog w A h₀ env x body Q E it s₂) E s := by
  have hlo := hkeep 0 m₀ news s.heap hj F.keep N
  have hls : s.heap.IsList l items := ⟨lo, hlo, hc, n, hd⟩
  have hlt : l < s.heap.objs.size := Heap.lt_size hlo
  have hne : l ≠ s.heap.objs.size := Nat.ne_of_lt hlt
  have hlL : l ≠ env.locals := by
    rintro rfl
    obtain ⟨o, es, ep, e, hdd, _⟩ := F.ns
    rw [hlo] at e; cases e; rw [hd] at hdd; cases hdd
  refine wpAny_pyIter_list hls ?_
  have W := Walks.list (prog := prog) (w := w) hh s.heap.objs.size l hne items
  refine ⟨_, _, _, _, _, _, m₀, news, J, rfl, W, ?_, ?_, ?_, ⟨⟨_, Heap.get?_push_size _ rfl, rfl, rfl⟩, hls.at fun o e => Heap.get?_push_of_some _ e⟩, F.push _, (fun p hp => ⟨Heap.get?_push_of_some _ (N p hp).1, (N p hp).2⟩), hj, ?_, ?_⟩
  · intro hm
    rcases List.mem_cons.mp hm with e | hm
    · exact absurd F.ns.lt (e ▸ Nat.lt_irrefl _)
    · exact hlL (List.mem_singleton.mp hm).symm
  · intro b hb
    rw [List.mem_singleton.mp hb]
    exact next_is_new F
  · intro p hp hI
    exact absurd (Heap.lt_size (N p hp).1) ((List.mem_singleton.mp hI) ▸ Nat.lt_irrefl _)
  · rintro i v m₁ news₁ s₁ own ⟨hh', tk', rfl⟩ hin hP hJ hoff hown hget _ hst F₁ N₁
    obtain ⟨⟨oI, hoI, _⟩, _⟩ := id hst
    have hI : ∀ q ∈ news₁, q.1 ≠ s.heap.objs.size := fun q hq e => hoff q hq (by rw [e]; exact List.mem_singleton.mpr rfl)
    have N₂ : News h₀ env.locals hh' ((s.heap.objs.size, oI) :: news₁) := fun p hp => by
      rcases List.mem_cons.mp hp with rfl | hp
      · exact ⟨hoI, Nat.ne_of_gt F.ns.lt, next_is_new F⟩
      · exact N₁ p (List.mem_append_right _ hp)
    have hl₁ : hh'.get? l = some lo := hkeep i m₁ news₁ hh' hJ F₁.keep fun p hp => N₁ p (List.mem_append_right _ hp)
    refine wpAny_mono (turn i v _ oI m₁ news₁ hh' tk' hP hJ hI F₁ N₂) (fun f s₂ p => ?_) fun _ _ e => e
    have fin : TEnd h₀ env.locals s.heap.objs.size oI (J (i + 1)) { s with heap := hh', toks := tk' } s₂ → LoopStepU h₀ env.locals [s.heap.objs.size] own (J (i + 1)) { s with heap := hh', toks := tk' } .next s₂ := by
      rintro ⟨h', tk, m', nx', e, F', N', hn, hm⟩
      refine ⟨rfl, h', tk, m', nx', e, F', fun p hp => ?_, fun p hp hq => hn p hp (List.mem_singleton.mp hq), hm⟩
      have Nx : News h₀ env.locals h' nx' := fun p hp => N' p (List.mem_cons_of_mem _ hp)
      rcases List.mem_append.mp hp with ho | ho
      · have n1 := N₁ p (List.mem_append_left _ ho)
        refine ⟨?_, n1.2⟩
        rcases List.mem_cons.mp (hown p ho) with h1 | h1
        · have g1 := n1.1
          rw [h1, hoI] at g1
          rw [h1, ← g1]
          exact (N' (s.heap.objs.size, oI) (List.mem_cons_self ..)).1
        · have h2 := List.mem_singleton.mp h1
          have g1 := n1.1
          rw [h2, hl₁] at g1
          rw [h2, ← g1]
          exact hkeep (i + 1) m' nx' h' hm F'.keep Nx
      · exact Nx p ho
    cases f with
    | ret v => exact .ret p
    | brk => exact .brk p
    | next => exact .next (fin p)
    | cont => exact .cont (fin p)
  · rintro h' tk m' news' F' N' _ hJ
    exact done m' news' h' tk hJ F' N'
end
/-- a mark: here the walk stops -/
def Stop (P : Prop) : Prop := P
theorem stop_here {P : Prop} (h : Stop P) : P := h
theorem bool_ret {Q : Value → Shared → Prop} {b b' : Bool} {s : Shared} (h : Q (.bool b) s) (e : b' = b) : Q (.bool b') s := by rw [e]; exact h
structure Kept (P : Prop) : Prop where
  out : P
theorem stop_out {P : Prop} (h : P) : Stop P := h
end

section
set_option maxRecDepth 100000
open PySem PySem.Spec PySem.Calls PyProof.Rows PyProof.V

inductive All2 {α β : Type} (R : α → β → Prop) : List α → List β → Prop
  | nil : All2 R [] []
  | cons {a b as bs} : R a b → All2 R as bs → All2 R (a :: as) (b :: bs)
theorem All2.append {α β : Type} {R : α → β → Prop} {as as' : List α} {bs bs' : List β} (x : All2 R as bs) (y : All2 R as' bs') : All2 R (as ++ as') (bs ++ bs') := by
  induction x with
  | nil => exact y
  | cons h _ ih => exact .cons h ih
theorem All2.mono {α β : Type} {R S : α → β → Prop} {as : List α} {bs : List β} (x : All2 R as bs) (h : ∀ a b, R a b → S a b) : All2 S as bs := by
  induction x with
  | nil => exact .nil
  | cons k _ ih => exact .cons (h _ _ k) ih
theorem All2.length {α β : Type} {R : α → β → Prop} {as : List α} {bs : List β} (x : All2 R as bs) : as.length = bs.length := by
  induction x with
  | nil => rfl
  | cons _ _ ih => simp [ih]
theorem All2.get {α β : Type} {R : α → β → Prop} {as : List α} {bs : List β} (x : All2 R as bs) : ∀ {i : Nat} {a : α}, as[i]? = some a → ∃ b, bs[i]? = some b ∧ R a b := by
  induction x with
  | nil => intro i a h; simp at h
  | cons k _ ih =>
    intro i a h
    cases i with
    | zero => simp at h; subst h; exact ⟨_, by simp, k⟩
    | succ i => simpa using ih (by simpa using h)

/-! ## What the law draws from a number -/
def lx (n : Int) : Int := n.fmod 5
def ly (n : Int) : Int := (n.fdiv 5).fmod 5
def lz (n : Int) : Int := (n.fdiv 25).fmod 5
def allows (n : Int) : Bool := (n.fdiv 125).fmod 2 == 1
def menu : List Str := ["*", "Fig", "fig-bot", "DATE", "x/1", "Old Fig"]
def agentOf (n : Int) : Str := menu.getD (n.fmod 6).toNat ""
abbrev longKvs (n : Int) (t1 t2 t3 : Tok) : List (Str × Value) := [("x", .int (lx n) t1), ("y", .int (ly n) t2), ("z", .int (lz n) t3)]

theorem fmod6 (n : Int) : 0 ≤ n.fmod 6 ∧ n.fmod 6 < 6 := ⟨Int.fmod_nonneg_of_pos _ (by decide), Int.fmod_lt_of_pos _ (by decide)⟩
theorem menu_at (n : Int) (t0 t1 t2 t3 t4 t5 : Tok) : ∃ t, ([.str "*" t0, .str "Fig" t1, .str "fig-bot" t2, .str "DATE" t3, .str "x/1" t4, .str "Old Fig" t5] : List Value)[(n.fmod 6).toNat]? = some (.str (agentOf n) t) := by
  obtain ⟨h0, h6⟩ := fmod6 n
  unfold agentOf
  generalize n.fmod 6 = k at h0 h6 ⊢
  have : k = 0 ∨ k = 1 ∨ k = 2 ∨ k = 3 ∨ k = 4 ∨ k = 5 := by omega
  rcases this with rfl | rfl | rfl | rfl | rfl | rfl <;> exact ⟨_, rfl⟩
theorem menu_item {prog : Program} {w : World} {A : Around} {E : Value → Shared → Prop} {s : Shared} {h₀ : Heap} {L nm : Addr} {news : List (Addr × Obj)} {value slice : PySem.Expr} {n : Int} {u : Tok} {t0 t1 t2 t3 t4 t5 : Tok} {k : Nat} {Q : Value → Shared → Prop}
    (N : News h₀ L s.heap news) (hm : (nm, listOf #[.str "*" t0, .str "Fig" t1, .str "fig-bot" t2, .str "DATE" t3, .str "x/1" t4, .str "Old Fig" t5] k) ∈ news) (h : ∀ t, Q (.str (agentOf n) t) s)
    (hs : subscripted slice false (.ref nm) (.int (n.fmod 6) u) = operate [.ref nm, .int (n.fmod 6) u] (getItem (.ref nm) (.int (n.fmod 6) u)) := by with_unfolding_all rfl) :
    wpAny (model prog w) A (subscriptTail value slice (.ref nm) (.int (n.fmod 6) u)) Q E s := by
  have hl : s.heap.IsList nm _ := ⟨_, (N _ hm).1, rfl, _, rfl⟩
  obtain ⟨t, ht⟩ := menu_at n t0 t1 t2 t3 t4 t5
  obtain ⟨h0, h6⟩ := fmod6 n
  exact tail_any hl.typeIs slot_list_getitem.lookup (wpAny_getItem_list hl h0 (by omega) (by simpa using ht) (h t)) hs

/-- one row of the law: a rule, and the pair that the law keeps of it -/
def RowAt (w : World) (l : List (Addr × Obj)) (d : Addr × Addr × Addr) (n : Int) : Prop :=
  RuleAt w l d.1 d.2.2 (allows n) ∧ (∃ k, (d.2.1, ({ cls := .type "tuple", data := .seq #[.ref d.2.2, .bool (allows n)] k } : Obj)) ∈ l) ∧ ∃ t1 t2 t3, LongsAt w l d.2.2 (longKvs n t1 t2 t3)
theorem RowAt.mono {w : World} {l l' : List (Addr × Obj)} {d : Addr × Addr × Addr} {n : Int} (x : RowAt w l d n) (hs : ∀ p ∈ l, p ∈ l') : RowAt w l' d n :=
  let ⟨a, ⟨k, b⟩, t1, t2, t3, c⟩ := x; ⟨a.mono hs, ⟨k, hs _ b⟩, t1, t2, t3, c.mono hs⟩
def RowsAre (w : World) (l : List (Addr × Obj)) (rs ts : List Value) (ns : List Int) : Prop :=
  ∃ ds : List (Addr × Addr × Addr), rs = ds.map (fun d => .ref d.1) ∧ ts = ds.map (fun d => .ref d.2.1) ∧ All2 (RowAt w l) ds ns
theorem RowsAre.mono {w : World} {l l' : List (Addr × Obj)} {rs ts : List Value} {ns : List Int} (x : RowsAre w l rs ts ns) (hs : ∀ p ∈ l, p ∈ l') : RowsAre w l' rs ts ns :=
  let ⟨ds, a, b, c⟩ := x; ⟨ds, a, b, c.mono fun _ _ h => h.mono hs⟩
theorem RowsAre.nil {w : World} {l : List (Addr × Obj)} : RowsAre w l [] [] [] := ⟨[], rfl, rfl, .nil⟩
theorem RowsAre.append {w : World} {l : List (Addr × Obj)} {rs ts rs' ts' : List Value} {ns ns' : List Int} (x : RowsAre w l rs ts ns) (y : RowsAre w l rs' ts' ns') : RowsAre w l (rs ++ rs') (ts ++ ts') (ns ++ ns') := by
  obtain ⟨ds, rfl, rfl, c⟩ := x
  obtain ⟨ds', rfl, rfl, c'⟩ := y
  exact ⟨ds ++ ds', by simp, by simp, c.append c'⟩
theorem RowsAre.snoc {w : World} {l : List (Addr × Obj)} {rs ts : List Value} {ns : List Int} {r t ld : Addr} {n : Int} (x : RowsAre w l rs ts ns) (y : RowAt w l (r, t, ld) n) : RowsAre w l (rs ++ [.ref r]) (ts ++ [.ref t]) (ns ++ [n]) :=
  x.append ⟨[(r, t, ld)], rfl, rfl, .cons y .nil⟩
theorem RowsAre.len1 {w : World} {l : List (Addr × Obj)} {rs ts : List Value} {ns : List Int} (x : RowsAre w l rs ts ns) : rs.length = ns.length := by
  obtain ⟨ds, rfl, rfl, c⟩ := x; simp [c.length]
theorem RowsAre.len2 {w : World} {l : List (Addr × Obj)} {rs ts : List Value} {ns : List Int} (x : RowsAre w l rs ts ns) : ts.length = ns.length := by
  obtain ⟨ds, rfl, rfl, c⟩ := x; simp [c.length]

def IsStr (v : Value) (g : Str) : Prop := ∃ t, v = .str g t
abbrev StrsAre (as : List Value) (gs : List Str) : Prop := All2 IsStr as gs

theorem take_snoc {α : Type} {ns : List α} {i : Nat} {n : α} (h : ns[i]? = some n) : ns.take (i + 1) = ns.take i ++ [n] := by
  rw [List.take_add_one, h]; rfl
theorem take_le {α : Type} {ns : List α} {i : Nat} {n : α} (h : ns[i]? = some n) : (ns.take i).length = i := by
  have := (List.getElem?_eq_some_iff.mp h).1
  simp; omega

/-- between two turns of _law_entry's loop -/
def EntJ (w : World) (K0 fx : List (Addr × Obj)) (ll ua rl : Addr) (m₀ : Str → Option Value) (ns : List Int) (i : Nat) (m : Str → Option Value) (nx : List (Addr × Obj)) : Prop :=
  ∃ rs ts as n1 n2 n3 ps made, nx = (ll, listOf rs.toArray n2) :: (ua, listOf as.toArray n1) :: (rl, listOf ts.toArray n3) :: (65, tabObj ps) :: (fx ++ made) ∧
    (∀ z : Str, z ≠ ("number" : Str) → z ≠ ("longs" : Str) → m z = m₀ z) ∧ StrsAre as ((ns.take i).map agentOf) ∧ RowsAre w (K0 ++ made) rs ts (ns.take i) ∧ AllGe (ll + 1) made ∧ TabSt (K0 ++ made) ps

section
variable {prog : Program} {w : World} {A : Around} {E : Value → Shared → Prop} {s : Shared} {env : Env} {h₀ : Heap} {body : List Stmt} {Q : Flow → Shared → Prop}
theorem ent_loop {ll ua e de rl nm rwl : Addr} {oe ode onm : Obj} {rest K0 : List (Addr × Obj)} {ps : Array Value} {vs : List Value} {ns : List Int} {nn : Nat} {m₀ : Str → Option Value}
    (hh : A.handled = none) (F : Fr h₀ env.locals s.heap m₀) (N : News h₀ env.locals s.heap ((ll, listOf #[] 0) :: (ua, listOf #[] 0) :: (e, oe) :: (de, ode) :: (rl, listOf #[] 0) :: (nm, onm) :: (65, tabObj ps) :: rest))
    (hrw : (rwl, listOf vs.toArray nn) ∈ rest) (hi : IntsAre vs ns) (hps : TabSt K0 ps)
    (turn : ∀ i n t I oI u h tk rs ts as n1 n2 n3 ps made, ns[i]? = some n → i < ns.length → rs.length = i → ts.length = i → as.length = i → StrsAre as ((ns.take i).map agentOf) → RowsAre w (K0 ++ made) rs ts (ns.take i) → AllGe (ll + 1) made → TabSt (K0 ++ made) ps →
      @Ne Nat ll I → @Ne Nat ua I → @Ne Nat rl I → @Ne Nat 65 I → (∀ q ∈ (e, oe) :: (de, ode) :: (nm, onm) :: (rest ++ made), q.1 ≠ I) →
      Fr h₀ env.locals h (fun y => if y = "number" then some (.int n t) else if y = "longs" then u else m₀ y) →
      News h₀ env.locals h ((I, oI) :: (ll, listOf rs.toArray n2) :: (ua, listOf as.toArray n1) :: (rl, listOf ts.toArray n3) :: (65, tabObj ps) :: (e, oe) :: (de, ode) :: (nm, onm) :: (rest ++ made)) →
      wpAny (model prog w) A (execs body env) (TPost h₀ env.locals I oI (EntJ w K0 ((e, oe) :: (de, ode) :: (nm, onm) :: rest) ll ua rl m₀ ns (i + 1)) { s with heap := h, toks := tk } Q) E { s with heap := h, toks := tk })
    (done : ∀ u u' h tk rs ts as n1 n2 n3 ps made, StrsAre as (ns.map agentOf) → RowsAre w (K0 ++ made) rs ts ns → AllGe (ll + 1) made → TabSt (K0 ++ made) ps →
      Fr h₀ env.locals h (fun y => if y = "number" then u' else if y = "longs" then u else m₀ y) →
      News h₀ env.locals h ((ll, listOf rs.toArray n2) :: (ua, listOf as.toArray n1) :: (rl, listOf ts.toArray n3) :: (65, tabObj ps) :: (e, oe) :: (de, ode) :: (nm, onm) :: (rest ++ made)) → Q .next { s with heap := h, toks := tk }) :
    wpAny (model prog w) A (pyIter (.ref rwl)) (fun it s₂ => LoopAtV prog w A h₀ env "number" body Q E it s₂) E s := by
  refine loop_list (news := (ll, listOf #[] 0) :: (ua, listOf #[] 0) :: (rl, listOf #[] 0) :: (65, tabObj ps) :: ((e, oe) :: (de, ode) :: (nm, onm) :: rest)) (lo := listOf vs.toArray nn) (items := vs.toArray) (n := nn) (EntJ w K0 ((e, oe) :: (de, ode) :: (nm, onm) :: rest) ll ua rl m₀ ns) hh rfl rfl ?_ F (sub_news N fun p hp => ?_)
    ⟨[], [], [], 0, 0, 0, ps, [], by simp, fun _ _ _ => rfl, .nil, .nil, (fun _ h => nomatch h), hps.mono fun p hp => by simpa using hp⟩ ?_ ?_
  · rintro i m nx h ⟨rs, ts, as, n1, n2, n3, ps', made, rfl, _⟩ _ N'
    exact (N' (rwl, listOf vs.toArray nn) (by simp [hrw])).1
  · simp only [List.mem_cons] at hp ⊢; grind
  · rintro i v I oI m₁ nx h tk hv ⟨rs, ts, as, n1, n2, n3, ps', made, rfl, hm, hA, hR, hG, hT⟩ hI F₁ N₁
    obtain ⟨n, t, rfl, hn⟩ := hi.at i v (by simpa using hv)
    simp only [List.forall_mem_cons, List.cons_append] at hI
    have e1 : (fun y => if y = ("number" : Str) then some (Value.int n t) else m₁ y) = fun y => if y = ("number" : Str) then some (Value.int n t) else if y = ("longs" : Str) then m₁ "longs" else m₀ y := by
      funext z
      by_cases h1 : z = "number"
      · simp [h1]
      · simp only [if_neg h1]
        by_cases h2 : z = "longs"
        · simp [h2]
        · simp only [if_neg h2]; exact hm z h1 h2
    rw [e1] at F₁
    refine turn i n t I oI (m₁ "longs") h tk rs ts as n1 n2 n3 ps' made hn (List.getElem?_eq_some_iff.mp hn).1 (by rw [hR.len1, take_le hn]) (by rw [hR.len2, take_le hn]) (by rw [hA.length, List.length_map, take_le hn]) hA hR hG hT hI.1 hI.2.1 hI.2.2.1 hI.2.2.2.1 ?_ F₁ N₁
    simp only [List.forall_mem_cons]; exact hI.2.2.2.2
  · rintro m₁ nx h tk ⟨rs, ts, as, n1, n2, n3, ps', made, rfl, hm, hA, hR, hG, hT⟩ F₁ N₁
    have hl : vs.toArray.size = ns.length := by simp [hi.length]
    rw [hl, List.take_length] at hA hR
    refine done (m₁ "longs") (m₁ "number") h tk rs ts as n1 n2 n3 ps' made hA hR hG hT ?_ N₁
    have e1 : (fun y => if y = ("number" : Str) then m₁ "number" else if y = ("longs" : Str) then m₁ "longs" else m₀ y) = m₁ := by
      funext z
      by_cases h1 : z = "number"
      · simp [h1]
      · simp only [if_neg h1]
        by_cases h2 : z = "longs"
        · simp [h2]
        · simp only [if_neg h2]; exact (hm z h1 h2).symm
    rw [e1]; exact F₁
theorem ent_next {ll ua rl tp ld r I L : Addr} {oI od f1 f2 f3 : Obj} {a1 a2 a3 : Addr} {rest K0 made tl : List (Addr × Obj)} {ps' : Array Value} {ns : List Int} {m₀ m' : Str → Option Value} {rs ts as : List Value} {n1 n2 n3 i k : Nat} {n : Int} {g : Str} {t t1 t2 t3 : Tok} {D : List (PyData × PyData)} {h' : Heap} {tk c : Nat} {s₁ : Shared}
    (hn : ns[i]? = some n) (hA : StrsAre as ((ns.take i).map agentOf)) (hR : RowsAre w (K0 ++ made) rs ts (ns.take i)) (hG : AllGe (ll + 1) made) (hg : g = agentOf n)
    (hI : ∀ q ∈ (a1, f1) :: (a2, f2) :: (a3, f3) :: (rest ++ made), q.1 ≠ I) (d1 : @Ne Nat ll I) (d2 : @Ne Nat ua I) (d3 : @Ne Nat rl I) (d4 : @Ne Nat 65 I)
    (l2 : AllGe c tl) (q1 : @LT.lt Nat _ ll c) (q2 : @LT.lt Nat _ I c) (q3 : @LT.lt Nat _ ll tp) (q4 : @LT.lt Nat _ I tp) (q5 : @LT.lt Nat _ ll ld) (q6 : @LT.lt Nat _ I ld)
    (S' : TabSt (K0 ++ made ++ tl) ps') (R' : RuleAt w (K0 ++ made ++ tl) r ld (allows n)) (lo : (ld == sysModules) = false) (hd : od.IsDictOf (strKind PySem.Challenge.pw_wy0073_01 w) (longKvs n t1 t2 t3)) (hf : FlatPairs PyData.str (longKvs n t1 t2 t3) D)
    (F : Fr h₀ L h' m') (N : News h₀ L h' ((tp, ({ cls := .type "tuple", data := .seq #[.ref ld, .bool (allows n)] k } : Obj)) :: (ld, od) :: (I, oI) :: (ll, listOf (rs.toArray.push (.ref r)) n2) :: (ua, listOf (as.toArray.push (.str g t)) n1) :: (rl, listOf (ts.toArray.push (.ref tp)) n3) :: (65, tabObj ps') :: (a1, f1) :: (a2, f2) :: (a3, f3) :: (rest ++ (made ++ tl))))
    (hm : ∀ z : Str, z ≠ ("number" : Str) → z ≠ ("longs" : Str) → m' z = m₀ z) :
    TPost h₀ L I oI (EntJ w K0 ((a1, f1) :: (a2, f2) :: (a3, f3) :: rest) ll ua rl m₀ ns (i + 1)) s₁ Q .next { s₁ with heap := h', toks := tk } := by
  have sub1 : ∀ p ∈ K0 ++ made, p ∈ K0 ++ (made ++ (tl ++ [(tp, ({ cls := .type "tuple", data := .seq #[.ref ld, .bool (allows n)] k } : Obj)), (ld, od)])) := fun p hp => by simp only [List.mem_append] at hp ⊢; grind
  have sub2 : ∀ p ∈ K0 ++ made ++ tl, p ∈ K0 ++ (made ++ (tl ++ [(tp, ({ cls := .type "tuple", data := .seq #[.ref ld, .bool (allows n)] k } : Obj)), (ld, od)])) := fun p hp => by simp only [List.mem_append] at hp ⊢; grind
  refine ⟨h', tk, m', _, rfl, F, sub_news N fun p hp => ?_, ?_, rs ++ [.ref r], ts ++ [.ref tp], as ++ [.str g t], n1, n2, n3, ps', made ++ (tl ++ [(tp, ({ cls := .type "tuple", data := .seq #[.ref ld, .bool (allows n)] k } : Obj)), (ld, od)]), rfl, hm, ?_, ?_, ?_, S'.mono sub2⟩
  · simp only [List.mem_cons, List.mem_append, List.cons_append, List.not_mem_nil, or_false, List.push_toArray] at hp ⊢
    grind
  · simp only [List.forall_mem_cons] at hI
    simp only [List.forall_mem_cons, List.cons_append]
    refine ⟨d1, d2, d3, d4, hI.1, hI.2.1, hI.2.2.1, ?_⟩
    intro q hq
    rcases List.mem_append.mp hq with hq | hq
    · exact hI.2.2.2 q (List.mem_append_left _ hq)
    rcases List.mem_append.mp hq with hq | hq
    · exact hI.2.2.2 q (List.mem_append_right _ hq)
    rcases List.mem_append.mp hq with hq | hq
    · exact allGe_ne l2 q2 q hq
    simp only [List.mem_cons, List.not_mem_nil, or_false] at hq
    rcases hq with rfl | rfl
    · exact Nat.ne_of_gt q4
    · exact Nat.ne_of_gt q6
  · rw [take_snoc hn, List.map_append]
    exact hA.append (.cons ⟨t, by rw [hg]⟩ .nil)
  · rw [take_snoc hn]
    exact (hR.mono sub1).snoc ⟨R'.mono sub2, ⟨k, by simp⟩, t1, t2, t3, od, D, by simp, lo, hd, hf⟩
  · intro q hq
    rcases List.mem_append.mp hq with hq | hq
    · exact hG q hq
    rcases List.mem_append.mp hq with hq | hq
    · exact Nat.le_trans q1 (l2 q hq)
    simp only [List.mem_cons, List.not_mem_nil, or_false] at hq
    rcases hq with rfl | rfl
    · exact q3
    · exact q5
end
end

section
set_option maxRecDepth 100000
open PySem PySem.Spec PySem.Calls PyProof.Rows PyProof.V
local macro_rules | `(tactic| k_all) => `(tactic| first | exact List.forall_mem_nil _ | (refine' List.forall_mem_cons.mpr ⟨?a, ?b⟩; (case a => k_ne); (case b => k_all)) | assumption | ((repeat (rename _ ∧ _ => hX; obtain ⟨hX1, hX2⟩ := hX)); first | exact allLt_ne (by assumption) (by omega) | exact raw_ne (by assumption) (by omega) | exact allGe_ne (by assumption) (by omega) | (refine forall_app ?a ?b; (case a => k_all); (case b => k_all)) | (rename AllLt _ _ => hY; clear hY; k_all) | (rename AllGe _ _ => hY; clear hY; k_all)))
local macro_rules | `(tactic| walk_at "pyIter ref") => `(tactic| ((with_reducible show wpAny _ _ (pyIter (Value.ref _)) (fun it s₂ => LoopAtV _ _ _ _ _ _ _ _ _ it s₂) _ _); refine stop_here ?_))
local macro_rules | `(tactic| walk_at "call ref") => `(tactic| (k_here; (with_reducible show wpAny _ _ (call (Value.ref 70) _) _ _ _); k_dflt (refine' rule_callU ?K0 ?S ?B ?F ?X ?N ?U ?T ?C ?k ?d ?u ?_; (case S => assumption); (case B => k_asm); (case F => k_asm); (case X => k_in); (case N => k_asm); (case U => k_updF); (case T => k_asm); (case C => assumption); (case k => exact rfl); (case d => ktr_room); (case u => ktr_units); k_whole); intro r' ps' tl' c' h' tk' F' N' l1 l2 S' R'; (try dsimp only at N' l1); (try simp only [List.cons_append, List.append_assoc] at N'); (try simp only [AllLt, and_true] at l1); (try dsimp only); (try k_fold)))
local macro_rules | `(tactic| walk_at "call builtin:list.append") => `(tactic| (k_here; (with_reducible show wpAny _ _ (call (Value.builtin _) [Value.ref _, _]) _ _ _); k_dflt (refine' append_K ?k1 ?k2 ?k3 ?_ ?z; (case k1 => k_asm); (case k2 => k_asm); (case k3 => k_upd); (case z => first | (rw [sizeLine_eq]; simp only [List.size_toArray]; omega) | size_fits); k_whole); intro h' F' N'; (try k_sweep)))
local macro_rules | `(tactic| walk_at "subscriptTail") => `(tactic| (k_here; (with_reducible show wpAny _ _ (subscriptTail _ _ (Value.ref _) (Value.int (Int.fmod _ _) _)) _ _ _); k_dflt (refine' menu_item ?N ?m ?_ ?hs; (case N => k_asm); (case m => k_mem); (case hs => with_unfolding_all rfl); k_whole); intro t'; (try dsimp only [List.nil_append, List.cons_append]); (try k_fold)))

/-- an entry: its own dict, as __init__ and the law lay it -/
def EntAt (l : List (Addr × Obj)) (e ua ll : Addr) (dl : Value) : Prop :=
  ∃ de h1 t1 h2 t2 h3 t3 h4 t4, (e, instObj 52 de) ∈ l ∧ (de, dictOf [⟨h1, .str "useragents" t1, .ref ua⟩, ⟨h2, .str "rulelines" t2, .ref ll⟩, ⟨h3, .str "delay" t3, dl⟩, ⟨h4, .str "req_rate" t4, .none⟩] 4) ∈ l
theorem EntAt.mono {l l' : List (Addr × Obj)} {e ua ll : Addr} {dl : Value} (x : EntAt l e ua ll dl) (hs : ∀ p ∈ l, p ∈ l') : EntAt l' e ua ll dl :=
  let ⟨de, h1, t1, h2, t2, h3, t3, h4, t4, a, b⟩ := x; ⟨de, h1, t1, h2, t2, h3, t3, h4, t4, hs _ a, hs _ b⟩
def ListAt (l : List (Addr × Obj)) (a : Addr) (vs : List Value) : Prop := ∃ n, (a, listOf vs.toArray n) ∈ l
theorem ListAt.mono {l l' : List (Addr × Obj)} {a : Addr} {vs : List Value} (x : ListAt l a vs) (hs : ∀ p ∈ l, p ∈ l') : ListAt l' a vs := let ⟨n, h⟩ := x; ⟨n, hs _ h⟩

theorem ret_ent {h₀ h : Heap} {L : Addr} {x1 x2 x3 x4 x5 x6 x7 t : Addr × Obj} {rest made : List (Addr × Obj)} (N : News h₀ L h (x1 :: x2 :: x3 :: x4 :: t :: x5 :: x6 :: x7 :: (rest ++ made))) : News h₀ L h (t :: (rest ++ (made ++ [x1, x2, x3, x4, x5, x6, x7]))) :=
  sub_news N fun p hp => by simp only [List.mem_cons, List.mem_append, List.not_mem_nil, or_false] at hp ⊢; grind
theorem ge_app {c d : Nat} {l l' : List (Addr × Obj)} (h : AllGe d l) (hcd : c ≤ d) (h' : AllGe c l') : AllGe c (l ++ l') := fun p hp =>
  (List.mem_append.mp hp).elim (fun hp => Nat.le_trans hcd (h p hp)) (h' p)

set_option maxHeartbeats 8000000 in
theorem entry_core {p : Program} {loose : List Str} {mean : ExcName → Option Value} {mg mb : Str → Option Value} {w : World}
   (dp un : Nat) (gd : Option (List Code)) (cn : Str) (cs : Scope) (a : Addr) (ccd : Value) (cl : List (Str × Addr)) (outer : List Env) (A₀ : Around) (base h₀ : Heap) (L : Addr) (m : Str → Option Value) (s : Shared) (Q E : Value → Shared → Prop) (K0 rest : List (Addr × Obj)) (rwl : Addr) (dl : Value) (ps : Array Value) (hps : TabSt K0 ps) (vs : List Value) (ns : List Int) (nn : Nat)
    (B : Below A₀ base outer h₀) (F : Fr h₀ L s.heap m) (X : (Mine.hd.heap_39 w.params).In h₀) (N : News h₀ L s.heap ((65, tabObj ps) :: rest)) (T : Top p loose mean mg mb h₀) (C : CodeHd base 69 65) (hk : cs.kind = .function)
    (hrw : (rwl, (listOf vs.toArray nn)) ∈ rest)
    (hi : IntsAre vs ns) (h63 : ns.length ≤ 63)
    (hr : ∀ q ∈ rest, q.1 ≠ 65) (hdp : dp + 40 < recursionLimit) (hun : un + 400 < cLine)
    (hret : ∀ t e rl ua ll rs ts as tl ps' c h' tk', Fr h₀ L h' m → News h₀ L h' ((65, tabObj ps') :: (rest ++ tl)) → AllLt c ((65, tabObj ps') :: rest) → AllGe c tl → TabSt (K0 ++ tl) ps' →
      (∃ k, (t, ({ cls := .type "tuple", data := .seq #[.ref e, .ref rl] k } : Obj)) ∈ tl) → EntAt tl e ua ll dl → ListAt tl ua as → ListAt tl ll rs → ListAt tl rl ts → StrsAre as (ns.map agentOf) → RowsAre w (K0 ++ tl) rs ts ns →
      Q (.ref t) { s with heap := h', toks := tk' }) :
    wpAny (model PySem.Challenge.pw_wy0073_01 w) (ktrTop dp un gd cn cs L a ccd cl outer) (call (.ref 87) [.ref rwl, dl]) Q E s := by
  refine wpAny_call ?_
  k_enter
  k_steps
  refine stop_out ?_
  rename News _ _ _ _ => NN
  rename Fr _ _ _ _ => FF
  refine ent_loop (K0 := K0) rfl FF NN hrw (by assumption) hps ?_ ?_
  · clear FF NN
    intro i n t I oI u h tk rs ts as n1 n2 n3 ps made hn hlt h1 h2 h3 hA hR hG hT d1 d2 d3 d4 hI F₁ N₁
    k_fold
    k_steps
    rename News _ _ _ _ => NN
    rename Fr _ _ _ _ => FF
    rename RuleAt _ _ _ _ _ => RR
    rename TabSt _ _ => SS
    rename AllGe _ _ => GG
    (repeat (rename _ ∧ _ => hX; obtain ⟨hX1, hX2⟩ := hX))
    exact ent_next hn hA hR hG rfl hI d1 d2 d3 d4 GG (by assumption) (by assumption) (by assumption) (by assumption) (by assumption) (by assumption) SS RR (by assumption) (by assumption) (by assumption) FF NN (by intro z z1 z2; simp [z1, z2])
  · clear FF NN
    intro u u' h tk rs ts as n1 n2 n3 ps made hA hR hG hT F₁ N₁
    k_steps
    rename News _ _ _ _ => NN
    rename Fr _ _ _ _ => FF
    rename 65 < _ ∧ AllLt _ _ => hl1
    have hl2 : Kept (AllLt _ ((65, tabObj ps) :: rest)) := ⟨hl1⟩
    (repeat (rename _ ∧ _ => hX; obtain ⟨hX1, hX2⟩ := hX))
    refine hret _ _ _ _ _ _ _ _ _ _ _ _ _ FF (ret_ent NN) hl2.out (ge_app hG (by omega) ?_) (hT.mono fun q hq => ?_) ⟨_, List.mem_append_right _ (by k_mem)⟩
      ⟨_, _, _, _, _, _, _, _, _, List.mem_append_right _ (by k_mem), List.mem_append_right _ (by k_mem)⟩ ⟨_, List.mem_append_right _ (by k_mem)⟩ ⟨_, List.mem_append_right _ (by k_mem)⟩ ⟨_, List.mem_append_right _ (by k_mem)⟩ hA (hR.mono fun q hq => ?_)
    · intro q hq
      simp only [List.mem_cons, List.not_mem_nil, or_false] at hq
      rcases hq with rfl | rfl | rfl | rfl | rfl | rfl | rfl <;> dsimp only <;> omega
    · simp only [List.mem_append] at hq ⊢; grind
    · simp only [List.mem_append] at hq ⊢; grind
end

section
set_option maxRecDepth 100000
open PySem PySem.Spec PySem.Calls PyProof.Rows PyProof.V

/-! ## Entry.allowance -/
def NameOk (nm : Str) : Prop := nm = "x" ∨ nm = "y" ∨ nm = "z"
def longOf (nm : Str) (n : Int) : Int := if nm = "x" then lx n else if nm = "y" then ly n else lz n
theorem value_long {nm : Str} (h : NameOk nm) (n : Int) (t1 t2 t3 : Tok) : ∃ t, valueAt (longKvs n t1 t2 t3) nm = some (.int (longOf nm n) t) := by
  rcases h with rfl | rfl | rfl
  · exact ⟨t1, rfl⟩
  · exact ⟨t2, rfl⟩
  · exact ⟨t3, rfl⟩
def stepA (nm : Str) (st : Int × Bool) (n : Int) : Int × Bool :=
  if longOf nm n = 0 then st
  else if longOf nm n > st.1 then (longOf nm n, allows n)
  else if longOf nm n = st.1 ∧ st.2 = false then (st.1, allows n)
  else st
def foldA (nm : Str) (ns : List Int) : Int × Bool := ns.foldl (stepA nm) (-1, true)
theorem foldA_snoc {nm : Str} {ns : List Int} {i : Nat} {n : Int} (h : ns[i]? = some n) : foldA nm (ns.take (i + 1)) = stepA nm (foldA nm (ns.take i)) n := by
  rw [take_snoc h]; simp [foldA]

theorem longOf_nonneg (nm : Str) (n : Int) : 0 ≤ longOf nm n := by
  unfold longOf lx ly lz
  split
  · exact Int.fmod_nonneg_of_pos _ (by decide)
  · split <;> exact Int.fmod_nonneg_of_pos _ (by decide)
def hits (nm : Str) (M : Int) (n : Int) : Bool := longOf nm n == M && allows n
/-- what the fold knows behind a prefix -/
def InvA (nm : Str) (ns : List Int) (st : Int × Bool) : Prop :=
  ((∀ n ∈ ns, longOf nm n = 0) ∧ st = (-1, true)) ∨ ((∃ n ∈ ns, longOf nm n = st.1) ∧ 0 < st.1 ∧ (∀ n ∈ ns, longOf nm n ≤ st.1) ∧ st.2 = ns.any (hits nm st.1))
theorem invA_step {nm : Str} {ns : List Int} {st : Int × Bool} {n : Int} (h : InvA nm ns st) : InvA nm (ns ++ [n]) (stepA nm st n) := by
  have h0 := longOf_nonneg nm n
  obtain ⟨b, a⟩ := st
  unfold stepA
  by_cases hz : longOf nm n = 0
  · rw [if_pos hz]
    rcases h with ⟨h1, h2⟩ | ⟨⟨k, hk, hk'⟩, h2, h3, h4⟩
    · exact .inl ⟨fun m hm => by rcases List.mem_append.mp hm with hm | hm; exact h1 m hm; rw [List.mem_singleton.mp hm]; exact hz, h2⟩
    · refine .inr ⟨⟨k, List.mem_append_left _ hk, hk'⟩, h2, fun m hm => ?_, ?_⟩
      · rcases List.mem_append.mp hm with hm | hm
        · exact h3 m hm
        · rw [List.mem_singleton.mp hm, hz]; exact Int.le_of_lt h2
      · dsimp only at h2 h4 ⊢
        have : hits nm b n = false := by unfold hits; rw [hz]; simp; omega
        rw [List.any_append, ← h4]; simp [this]
  · rw [if_neg hz]
    dsimp only
    by_cases hg : longOf nm n > b
    · rw [if_pos hg]
      have hall : ∀ m ∈ ns, longOf nm m < longOf nm n := fun m hm => by
        rcases h with ⟨h1, h2⟩ | ⟨_, h2, h3, h4⟩
        · rw [h1 m hm]; omega
        · have := h3 m hm; dsimp only at this; omega
      refine .inr ⟨⟨n, by simp, rfl⟩, by show 0 < longOf nm n; omega, fun m hm => ?_, ?_⟩
      · rcases List.mem_append.mp hm with hm | hm
        · exact Int.le_of_lt (hall m hm)
        · rw [List.mem_singleton.mp hm]; exact Int.le_refl _
      · show allows n = (ns ++ [n]).any (hits nm (longOf nm n))
        have : ns.any (hits nm (longOf nm n)) = false := by
          rw [List.any_eq_false]
          intro m hm
          have := hall m hm
          unfold hits; simp; omega
        rw [List.any_append, this]; simp [hits]
    · rw [if_neg hg]
      rcases h with ⟨h1, h2⟩ | ⟨⟨k, hk, hk'⟩, h2, h3, h4⟩
      · cases h2; omega
      · dsimp only at hk' h2 h3 h4
        by_cases he : longOf nm n = b ∧ a = false
        · rw [if_pos he]
          refine .inr ⟨⟨k, List.mem_append_left _ hk, hk'⟩, h2, fun m hm => ?_, ?_⟩
          · rcases List.mem_append.mp hm with hm | hm
            · exact h3 m hm
            · rw [List.mem_singleton.mp hm]; exact Int.le_of_eq he.1
          · show allows n = (ns ++ [n]).any (hits nm b)
            rw [List.any_append, ← h4, he.2]; simp [hits, he.1]
        · rw [if_neg he]
          refine .inr ⟨⟨k, List.mem_append_left _ hk, hk'⟩, h2, fun m hm => ?_, ?_⟩
          · rcases List.mem_append.mp hm with hm | hm
            · exact h3 m hm
            · rw [List.mem_singleton.mp hm]; dsimp only; omega
          · show a = (ns ++ [n]).any (hits nm b)
            rw [List.any_append, ← h4]
            cases a with
            | true => simp
            | false =>
              have : longOf nm n ≠ b := fun e => he ⟨e, rfl⟩
              simp [hits, this]
theorem invA (nm : Str) (ns : List Int) : InvA nm ns (foldA nm ns) := by
  have all : ∀ i, i ≤ ns.length → InvA nm (ns.take i) (foldA nm (ns.take i)) := by
    intro i
    induction i with
    | zero => intro _; exact .inl ⟨fun _ h => by simp at h, rfl⟩
    | succ i ih =>
      intro hi
      have hn : ns[i]? = some ns[i] := by simp
      rw [foldA_snoc hn, take_snoc hn]
      exact invA_step (ih (by omega))
  have := all ns.length (Nat.le_refl _)
  rwa [List.take_length] at this
/-- the two readings of «allowed» agree -/
theorem allowed_two {nm : Str} {ns : List Int} {M : Int} (h1 : M ∈ [0] ++ ns.map (longOf nm)) (h2 : ∀ a, a ∈ [0] ++ ns.map (longOf nm) → a ≤ M) : (foldA nm ns).2 = (M == 0 || ns.any (hits nm M)) := by
  have h0 : 0 ≤ M := h2 0 (by simp)
  have hall : ∀ n ∈ ns, longOf nm n ≤ M := fun n hn => h2 _ (by simp; exact .inr ⟨n, hn, rfl⟩)
  rcases invA nm ns with ⟨a1, a2⟩ | ⟨⟨k, hk, hk'⟩, a2, a3, a4⟩
  · have hM : M = 0 := by
      rcases List.mem_append.mp h1 with h | h
      · exact List.mem_singleton.mp h
      · obtain ⟨n, hn, rfl⟩ := List.mem_map.mp h; exact a1 n hn
    rw [a2, hM]; rfl
  · have hM : M = (foldA nm ns).1 := by
      have b1 := hall k hk
      rcases List.mem_append.mp h1 with h | h
      · have := List.mem_singleton.mp h; omega
      · obtain ⟨n, hn, rfl⟩ := List.mem_map.mp h
        have := a3 n hn; omega
    have hne : (M == 0) = false := by simp; omega
    rw [a4, hne, ← hM]; rfl

theorem RowsAre.get1 {w : World} {l : List (Addr × Obj)} {rs ts : List Value} {ns : List Int} (x : RowsAre w l rs ts ns) {i : Nat} {v : Value} (h : rs[i]? = some v) : ∃ r t ld n, v = .ref r ∧ ns[i]? = some n ∧ RowAt w l (r, t, ld) n := by
  obtain ⟨ds, rfl, rfl, c⟩ := x
  rw [List.getElem?_map] at h
  cases hd : ds[i]? with
  | none => rw [hd] at h; cases h
  | some d =>
    rw [hd] at h
    obtain ⟨n, hn, hR⟩ := c.get hd
    cases h
    exact ⟨d.1, d.2.1, d.2.2, n, rfl, hn, hR⟩
theorem RowsAre.get2 {w : World} {l : List (Addr × Obj)} {rs ts : List Value} {ns : List Int} (x : RowsAre w l rs ts ns) {i : Nat} {v : Value} (h : ts[i]? = some v) : ∃ r t ld n, v = .ref t ∧ ns[i]? = some n ∧ RowAt w l (r, t, ld) n := by
  obtain ⟨ds, rfl, rfl, c⟩ := x
  rw [List.getElem?_map] at h
  cases hd : ds[i]? with
  | none => rw [hd] at h; cases h
  | some d =>
    rw [hd] at h
    obtain ⟨n, hn, hR⟩ := c.get hd
    cases h
    exact ⟨d.1, d.2.1, d.2.2, n, rfl, hn, hR⟩

section
variable {prog : Program} {w : World} {A : Around} {E : Value → Shared → Prop} {s : Shared} {h₀ : Heap} {L : Addr}
theorem fn_getMethodN {news : List (Addr × Obj)} {r d : Addr} {od : Obj} {fd : FuncData} {sl : Array (Option Value)} {name : Str} {v : Value} {pl : Sem Bool} (hn : typeLookup (.type "function") name = pure none)
    (N : News h₀ L s.heap news) (hr : (r, (⟨.type "function", some d, .func fd, sl⟩ : Obj)) ∈ news) (hd : (d, od) ∈ news) (hl : lookIn name od = some (some v)) (hv : handedIn v = true) {Q : Value × List Value → Shared → Prop} (h : Q (v, []) { s with toks := s.toks + 1 }) :
    wpAny (model prog w) A (getMethod (.ref r) name pl) Q E s := fn_getMethod hn (N _ hr).1 rfl rfl rfl (N _ hd).1 hl hv h
theorem fn_getAttrN {news : List (Addr × Obj)} {r d : Addr} {od : Obj} {fd : FuncData} {sl : Array (Option Value)} {name : Str} {v : Value} {expr : Bool} (hn : typeLookup (.type "function") name = pure none)
    (N : News h₀ L s.heap news) (hr : (r, (⟨.type "function", some d, .func fd, sl⟩ : Obj)) ∈ news) (hd : (d, od) ∈ news) (hl : lookIn name od = some (some v)) (hv : handedIn v = true) {Q : Value → Shared → Prop} (h : Q v { s with toks := s.toks + 1 }) :
    wpAny (model prog w) A (getAttr (.ref r) name expr) Q E s := fn_getAttr hn (N _ hr).1 rfl rfl rfl (N _ hd).1 hl hv h
end

/-- a call, where its promise is at hand -/
theorem says_use {k : Nat} {f : Value} {args : List Value} {pre : List (Addr × Obj) → Prop} {post : List (Addr × Obj) → Value → List (Addr × Obj) → Prop} {p : Program} {loose : List Str} {mean : ExcName → Option Value} {mg mb : Str → Option Value} {w : World} {news : List (Addr × Obj)}
   {dp un : Nat} {gd : Option (List Code)} {cn : Str} {cs : Scope} {a : Addr} {ccd : Value} {cl : List (Str × Addr)} {outer : List Env} {A₀ : Around} {base h₀ : Heap} {L : Addr} {m : Str → Option Value} {s : Shared} {Q E : Value → Shared → Prop}
   (S : Says w k f args pre post) (B : Below A₀ base outer h₀) (F : Fr h₀ L s.heap m) (X : (Mine.hd.heap_39 w.params).In h₀) (N : News h₀ L s.heap news) (T : Top p loose mean mg mb h₀) (C : CodeHd base 69 65) (hk : cs.kind = .function)
   (hd : dp + 10 * k < recursionLimit) (hu : un + 100 * k < cLine) (P : pre news)
   (hret : ∀ r news' h' tk', Fr h₀ L h' m → News h₀ L h' news' → post news r news' → Q r { s with heap := h', toks := tk' }) : wpAny (model PySem.Challenge.pw_wy0073_01 w) (ktrTop dp un gd cn cs L a ccd cl outer) (call f args) Q E s :=
  S _ _ _ _ _ _ _ _ _ _ _ _ _ _ _ _ _ _ _ _ _ _ _ B F X N T C hk hd hu P hret

/-- between two turns of allowance's loop -/
def AlwJ (nm : Str) (news : List (Addr × Obj)) (m₀ : Str → Option Value) (ns : List Int) (i : Nat) (m : Str → Option Value) (nx : List (Addr × Obj)) : Prop :=
  nx = news ∧ (∃ t, m "best_match" = some (.int (foldA nm (ns.take i)).1 t)) ∧ m "allowance" = some (.bool (foldA nm (ns.take i)).2) ∧
    ∀ z : Str, z ≠ ("line" : Str) → z ≠ ("m" : Str) → z ≠ ("best_match" : Str) → z ≠ ("allowance" : Str) → m z = m₀ z

section
variable {prog : Program} {w : World} {A : Around} {E : Value → Shared → Prop} {s : Shared} {env : Env} {h₀ : Heap} {body : List Stmt} {Q : Flow → Shared → Prop}
theorem alw_loop {ll : Addr} {news : List (Addr × Obj)} {rs ts : List Value} {ns : List Int} {nn : Nat} {m₀ : Str → Option Value} {nm : Str} {tb : Tok}
    (hh : A.handled = none) (F : Fr h₀ env.locals s.heap m₀) (N : News h₀ env.locals s.heap news) (hl : (ll, listOf rs.toArray nn) ∈ news) (hR : RowsAre w news rs ts ns)
    (hb : m₀ "best_match" = some (.int (-1) tb)) (ha : m₀ "allowance" = some (.bool true))
    (turn : ∀ i n r t ld I oI u b tb al h tk, ns[i]? = some n → RowAt w ((I, oI) :: news) (r, t, ld) n → foldA nm (ns.take i) = (b, al) → (∀ q ∈ news, q.1 ≠ I) →
      Fr h₀ env.locals h (fun y => if y = "line" then some (.ref r) else if y = "m" then u else if y = "best_match" then some (.int b tb) else if y = "allowance" then some (.bool al) else m₀ y) →
      News h₀ env.locals h ((I, oI) :: news) →
      wpAny (model prog w) A (execs body env) (TPost h₀ env.locals I oI (AlwJ nm news m₀ ns (i + 1)) { s with heap := h, toks := tk } Q) E { s with heap := h, toks := tk })
    (done : ∀ u u' tb h tk, Fr h₀ env.locals h (fun y => if y = "line" then u else if y = "m" then u' else if y = "best_match" then some (.int (foldA nm ns).1 tb) else if y = "allowance" then some (.bool (foldA nm ns).2) else m₀ y) → News h₀ env.locals h news → Q .next { s with heap := h, toks := tk }) :
    wpAny (model prog w) A (pyIter (.ref ll)) (fun it s₂ => LoopAtV prog w A h₀ env "line" body Q E it s₂) E s := by
  refine loop_list (news := news) (lo := listOf rs.toArray nn) (items := rs.toArray) (n := nn) (AlwJ nm news m₀ ns) hh rfl rfl ?_ F N ⟨rfl, ⟨tb, hb⟩, ha, fun _ _ _ _ _ => rfl⟩ ?_ ?_
  · rintro i m nx h ⟨rfl, _⟩ _ N'
    exact (N' _ hl).1
  · rintro i v I oI m₁ nx h tk hv ⟨rfl, ⟨t', hb'⟩, ha', hm⟩ hI F₁ N₁
    obtain ⟨r, t, ld, n, rfl, hn, hRow⟩ := hR.get1 (by simpa using hv)
    have e1 : (fun y => if y = ("line" : Str) then some (Value.ref r) else m₁ y) = fun y => if y = ("line" : Str) then some (Value.ref r) else if y = ("m" : Str) then m₁ "m" else if y = ("best_match" : Str) then some (.int (foldA nm (ns.take i)).1 t') else if y = ("allowance" : Str) then some (.bool (foldA nm (ns.take i)).2) else m₀ y := by
      funext z
      by_cases h1 : z = "line"
      · simp [h1]
      · simp only [if_neg h1]
        by_cases h2 : z = "m"
        · simp [h2]
        · simp only [if_neg h2]
          by_cases h3 : z = "best_match"
          · simp [h3, hb']
          · simp only [if_neg h3]
            by_cases h4 : z = "allowance"
            · simp [h4, ha']
            · simp only [if_neg h4]; exact hm z h1 h2 h3 h4
    rw [e1] at F₁
    exact turn i n r t ld I oI (m₁ "m") _ t' _ h tk hn (hRow.mono fun p hp => List.mem_cons_of_mem _ hp) rfl hI F₁ N₁
  · rintro m₁ nx h tk ⟨rfl, ⟨t', hb'⟩, ha', hm⟩ F₁ N₁
    have hsz : rs.toArray.size = ns.length := by simp [hR.len1]
    rw [hsz, List.take_length] at hb' ha'
    refine done (m₁ "line") (m₁ "m") t' h tk ?_ N₁
    have e1 : (fun y => if y = ("line" : Str) then m₁ "line" else if y = ("m" : Str) then m₁ "m" else if y = ("best_match" : Str) then some (.int (foldA nm ns).1 t') else if y = ("allowance" : Str) then some (.bool (foldA nm ns).2) else m₀ y) = m₁ := by
      funext z
      by_cases h1 : z = "line"
      · simp [h1]
      · simp only [if_neg h1]
        by_cases h2 : z = "m"
        · simp [h2]
        · simp only [if_neg h2]
          by_cases h3 : z = "best_match"
          · simp [h3, hb']
          · simp only [if_neg h3]
            by_cases h4 : z = "allowance"
            · simp [h4, ha']
            · simp only [if_neg h4]; exact (hm z h1 h2 h3 h4).symm
    rw [e1]; exact F₁
theorem alw_next {news : List (Addr × Obj)} {ns : List Int} {m₀ m' : Str → Option Value} {nm : Str} {i : Nat} {n b b' : Int} {al al' : Bool} {tb' : Tok} {L I : Addr} {oI : Obj} {h' : Heap} {tk : Nat} {s₁ : Shared}
    (hn : ns[i]? = some n) (hst : foldA nm (ns.take i) = (b, al)) (hI : ∀ q ∈ news, q.1 ≠ I) (F : Fr h₀ L h' m') (N : News h₀ L h' ((I, oI) :: news))
    (hb : m' "best_match" = some (.int b' tb')) (ha : m' "allowance" = some (.bool al')) (hm : ∀ z : Str, z ≠ ("line" : Str) → z ≠ ("m" : Str) → z ≠ ("best_match" : Str) → z ≠ ("allowance" : Str) → m' z = m₀ z) (hs : stepA nm (b, al) n = (b', al')) :
    TPost h₀ L I oI (AlwJ nm news m₀ ns (i + 1)) s₁ Q .next { s₁ with heap := h', toks := tk } := by
  refine ⟨h', tk, m', news, rfl, F, N, hI, rfl, ⟨tb', ?_⟩, ?_, hm⟩
  · rw [foldA_snoc hn, hst, hs]; exact hb
  · rw [foldA_snoc hn, hst, hs]; exact ha
end
end

section
set_option maxRecDepth 100000
open PySem PySem.Spec PySem.Calls PyProof.Rows PyProof.V
local macro_rules | `(tactic| walk_at "pad0") => `(tactic| fail)
local macro_rules | `(tactic| walk_at "pyIter ref") => `(tactic| ((with_reducible show wpAny _ _ (pyIter (Value.ref _)) (fun it s₂ => LoopAtV _ _ _ _ _ _ _ _ _ it s₂) _ _); refine stop_here ?_))
local macro_rules | `(tactic| walk_at "getMethod ref") => `(tactic| (k_here; k_dflt (refine' fn_getMethodN ?n ?N ?r ?d ?l ?v ?_; (case N => k_asm); (case r => k_mem); (case d => k_mem); (case n => first | exact fn_lk_applies | exact fn_lk_allow); (case l => with_unfolding_all rfl); (case v => rfl); k_whole)))
local macro_rules | `(tactic| walk_at "getAttr ref") => `(tactic| (k_here; k_dflt (refine' fn_getAttrN ?n ?N ?r ?d ?l ?v ?_; (case N => k_asm); (case r => k_mem); (case d => k_mem); (case n => first | exact fn_lk_applies | exact fn_lk_allow); (case l => with_unfolding_all rfl); (case v => rfl); k_whole)))

theorem rule_pre {w : World} {l news : List (Addr × Obj)} {ld : Addr} {kvs : List (Str × Value)} (hl : ∀ p ∈ l, p ∈ news) (x : LongsAt w l ld kvs) : (∀ p ∈ l, p ∈ news) ∧ LongsAt w news ld kvs := ⟨hl, x.mono hl⟩
local macro_rules | `(tactic| walk_at "call ref") => `(tactic| (k_here; (with_reducible show wpAny _ _ (call (Value.ref _) _) _ _ _); k_dflt (refine' says_use ?S ?B ?F ?X ?N ?T ?C ?k ?d ?u ?P ?_; (case S => assumption); (case B => k_asm); (case F => k_asm); (case X => k_in); (case N => k_asm); (case T => k_asm); (case C => assumption); (case k => first | exact rfl | assumption); (case d => ktr_room); (case u => ktr_units); (case P => exact rule_pre (fun _ h => h) (by assumption)); k_whole); intro r' nw' h' tk' F' N' ho'; obtain ⟨hq', hq2'⟩ := ho'; subst hq' hq2'; (try dsimp only); (try k_fold)))

set_option maxHeartbeats 8000000 in
theorem allowance_call {p : Program} {loose : List Str} {mean : ExcName → Option Value} {mg mb : Str → Option Value} {w : World}
   (dp un : Nat) (gd : Option (List Code)) (cn : Str) (cs : Scope) (a : Addr) (ccd : Value) (cl : List (Str × Addr)) (outer : List Env) (A₀ : Around) (base h₀ : Heap) (L : Addr) (m : Str → Option Value) (s : Shared) (Q E : Value → Shared → Prop) (news : List (Addr × Obj)) (e ua ll : Addr) (dl : Value) (rs ts : List Value) (ns : List Int) (nm : Str) (tn : Tok)
    (B : Below A₀ base outer h₀) (F : Fr h₀ L s.heap m) (X : (Mine.hd.heap_39 w.params).In h₀) (N : News h₀ L s.heap news) (T : Top p loose mean mg mb h₀) (C : CodeHd base 69 65) (hk : cs.kind = .function)
    (he : EntAt news e ua ll dl) (hl : ListAt news ll rs) (hR : RowsAre w news rs ts ns) (hnm : NameOk nm)
    (hdp : dp + 40 < recursionLimit) (hun : un + 400 < cLine)
    (hret : ∀ h' tk', Fr h₀ L h' m → News h₀ L h' news → Q (.bool (foldA nm ns).2) { s with heap := h', toks := tk' }) :
    wpAny (model PySem.Challenge.pw_wy0073_01 w) (ktrTop dp un gd cn cs L a ccd cl outer) (call (.ref 49) [.ref e, .str nm tn]) Q E s := by
  obtain ⟨de, a1, b1, a2, b2, a3, b3, a4, b4, he1, he2⟩ := he
  obtain ⟨nl, hl⟩ := hl
  refine wpAny_call ?_
  k_enter
  k_steps
  refine stop_out ?_
  rename News _ _ _ _ => NN
  rename Fr _ _ _ _ => FF
  refine alw_loop (nm := nm) rfl FF NN hl hR rfl rfl ?_ ?_
  · clear FF NN
    intro i n r t ld I oI u b tb al h tk hn hrow hst hI F₁ N₁
    obtain ⟨⟨d, f, fd, sl, h1, t1, h2, t2, m1, m2, ⟨oc, od, fd', sl', m3⟩, sem⟩, _, u1, u2, u3, hL⟩ := hrow
    obtain ⟨tv, hv⟩ := value_long hnm n u1 u2 u3
    have hsay := sem nm tn _ _ hv
    clear sem
    k_steps
    all_goals (
      rename News _ _ _ _ => NN
      rename Fr _ _ _ _ => FF
      refine alw_next hn hst hI FF NN rfl rfl (by intro z z1 z2 z3 z4; simp [z1, z2, z3, z4]) ?_
      simp_all [stepA])
  · clear FF NN
    intro u u' tb h tk F₁ N₁
    k_steps
    exact hret _ _ (by k_asm) (by k_asm)
end

section
set_option maxRecDepth 100000
open PySem PySem.Spec PySem.Calls PyProof.Rows PyProof.Rows.LCg

/-! ## Comprehensions whose turns let the ledger stand -/
def CEnd (h₀ : Heap) (L : Addr) (m : Str → Option Value) (I : Addr) (oI : Obj) (C : Addr) (oC : Obj) (D : Addr) (ys : List Value) (news : List (Addr × Obj)) (s₁ : Shared) (P : Prop) (s₂ : Shared) : Prop :=
  ∃ h' tk, s₂ = { s₁ with heap := h', toks := tk } ∧ Fr h₀ L h' m ∧ News h₀ L h' ((I, oI) :: (C, oC) :: (D, lst ys) :: news) ∧ P
section
variable {prog : Program} {w : World} {A : Around} {E : Value → Shared → Prop} {s : Shared} {h₀ : Heap} {L : Addr} {m : Str → Option Value} {env : Env}
theorem CEnd.comp {I C D : Addr} {oI oC : Obj} {ys : List Value} {news : List (Addr × Obj)} {s₁ s₂ : Shared} {P : Prop} {S : List (Addr × Obj) → Prop} {rest : Value → List (Addr × Obj) → Prop} {y : Value} (x : CEnd h₀ L m I oI C oC D ys news s₁ P s₂)
    (off : Off3 I C D news) (hS : S news) (hr : P → rest y news) : CompEnd h₀ L m s₁ I oI C oC D (lst ys) S rest y s₂ :=
  let ⟨h', tk, e, F, N, p⟩ := x; ⟨h', tk, news, e, F, N, off, hS, hr p⟩

theorem restU {elt : Expr} {x : Str} {scope : Scope} {cl : List (Str × Addr)} {S : List (Addr × Obj) → Prop} {P : Nat → Value → Prop} {Fin : List Value → List (Addr × Obj) → Prop} {news : List (Addr × Obj)} {n : Nat} (J : Nat → List Value → Prop) (hS : S news)
    (turn : ∀ i v ys I oI C oC D m₂ h tk (E' : Value → Shared → Prop), i < n → P i v → J i ys → NsObj oC m₂ → m₂ x = some v → Fr h₀ L h m → News h₀ L h ((I, oI) :: (C, oC) :: (D, lst ys) :: news) → Off3 I C D news → ((@Ne Nat I C) ∧ (@Ne Nat I D) ∧ (@Ne Nat C D)) →
      wpAny (model prog w) A (eval elt (compEnvC scope cl C env)) (fun y => CEnd h₀ L m I oI C oC D ys news { s with heap := h, toks := tk } (J (i + 1) (ys ++ [y]))) E' { s with heap := h, toks := tk })
    (fin : ∀ ys, J n ys → Fin ys news) : ∀ k i ys, i + k = n → J i ys → CompRest prog w A h₀ L m env elt x scope cl s S P Fin k i ys news := by
  intro k
  induction k with
  | zero => intro i ys e hj; obtain rfl : i = n := by omega
            exact CompRest.zero (fin ys hj)
  | succ k ih =>
    intro i ys e hj
    refine CompRest.succ fun v I oI C oC D m₂ h tk E' hP hC hx F N off ne => ?_
    exact wpAny_mono (turn i v ys I oI C oC D m₂ h tk E' (by omega) hP hj hC hx F N off ne) (fun y s₂ q => q.comp off hS fun j => ih (i + 1) _ (by omega) j) fun _ _ e => e

theorem restT {ct elt : Expr} {x : Str} {scope : Scope} {cl : List (Str × Addr)} {S : List (Addr × Obj) → Prop} {P : Nat → Value → Prop} {Fin : List Value → List (Addr × Obj) → Prop} {news : List (Addr × Obj)} {n : Nat} (J : Nat → List Value → Prop) (hS : S news)
    (turn : ∀ i v ys I oI C oC D m₂ h tk (E' : Value → Shared → Prop), i < n → P i v → J i ys → NsObj oC m₂ → m₂ x = some v → Fr h₀ L h m → News h₀ L h ((I, oI) :: (C, oC) :: (D, lst ys) :: news) → Off3 I C D news → ((@Ne Nat I C) ∧ (@Ne Nat I D) ∧ (@Ne Nat C D)) →
      wpAny (model prog w) A (isTrue ct (compEnvC scope cl C env) (eval ct (compEnvC scope cl C env))) (fun ok s' => if ok = true then
        wpAny (model prog w) A (eval elt (compEnvC scope cl C env)) (fun y => CEnd h₀ L m I oI C oC D ys news { s with heap := h, toks := tk } (J (i + 1) (ys ++ [y]))) E' s'
        else CEnd h₀ L m I oI C oC D ys news { s with heap := h, toks := tk } (J (i + 1) ys) s') E' { s with heap := h, toks := tk })
    (fin : ∀ ys, J n ys → Fin ys news) : ∀ k i ys, i + k = n → J i ys → LCt.CompRestT prog w A h₀ L m env ct elt x scope cl s S P Fin k i ys news := by
  intro k
  induction k with
  | zero => intro i ys e hj; obtain rfl : i = n := by omega
            exact LCt.CompRestT.zero (fin ys hj)
  | succ k ih =>
    intro i ys e hj
    refine LCt.CompRestT.succ fun v I oI C oC D m₂ h tk E' hP hC hx F N off ne => ?_
    refine wpAny_mono (turn i v ys I oI C oC D m₂ h tk E' (by omega) hP hj hC hx F N off ne) (fun ok s' q => ?_) fun _ _ e => e
    cases ok with
    | true =>
      simp only [if_true] at q ⊢
      exact wpAny_mono q (fun y s₂ q => q.comp off hS fun j => ih (i + 1) _ (by omega) j) fun _ _ e => e
    | false =>
      simp only [Bool.false_eq_true, if_false] at q ⊢
      exact q.comp off hS fun j => ih (i + 1) _ (by omega) j

theorem restP {elt : Expr} {x x₂ : Str} {scope : Scope} {cl : List (Str × Addr)} {S : List (Addr × Obj) → Prop} {P : Nat → Value → Prop} {Fin : List Value → List (Addr × Obj) → Prop} {news : List (Addr × Obj)} {n : Nat} (J : Nat → List Value → Prop) (hS : S news) (v₁ v₂ : Nat → Value)
    (hP : ∀ i v, i < n → P i v → ∃ t ot nt, v = .ref t ∧ (t, ot) ∈ news ∧ ot.cls = .type "tuple" ∧ ot.data = .seq #[v₁ i, v₂ i] nt)
    (turn : ∀ i ys I oI C oC D m₂ h tk (E' : Value → Shared → Prop), i < n → J i ys → NsObj oC m₂ → m₂ x = some (v₁ i) → m₂ x₂ = some (v₂ i) → Fr h₀ L h m → News h₀ L h ((I, oI) :: (C, oC) :: (D, lst ys) :: news) → Off3 I C D news → ((@Ne Nat I C) ∧ (@Ne Nat I D) ∧ (@Ne Nat C D)) →
      wpAny (model prog w) A (eval elt (compEnvC scope cl C env)) (fun y => CEnd h₀ L m I oI C oC D ys news { s with heap := h, toks := tk } (J (i + 1) (ys ++ [y]))) E' { s with heap := h, toks := tk })
    (fin : ∀ ys, J n ys → Fin ys news) : ∀ k i ys, i + k = n → J i ys → LCp.CompRestP prog w A h₀ L m env elt x x₂ scope cl s S P Fin k i ys news := by
  intro k
  induction k with
  | zero => intro i ys e hj; obtain rfl : i = n := by omega
            exact LCp.CompRestP.zero (fin ys hj)
  | succ k ih =>
    intro i ys e hj
    refine LCp.CompRestP.succ fun v hv => ?_
    obtain ⟨t, ot, nt, rfl, h1, h2, h3⟩ := hP i v (by omega) hv
    refine ⟨t, ot, v₁ i, v₂ i, nt, rfl, h1, h2, h3, fun I oI C oC D m₂ h tk E' hC hx hx₂ F N off ne => ?_⟩
    exact wpAny_mono (turn i ys I oI C oC D m₂ h tk E' (by omega) hj hC hx hx₂ F N off ne) (fun y s₂ q => q.comp off hS fun j => ih (i + 1) _ (by omega) j) fun _ _ e => e
end

theorem rows_tup {w : World} {news : List (Addr × Obj)} {rs ts : List Value} {ns : List Int} (x : RowsAre w news rs ts ns) : ∃ v₁ v₂ : Nat → Value,
    (∀ i v, ts[i]? = some v → ∃ t ot nt, v = .ref t ∧ (t, ot) ∈ news ∧ ot.cls = .type "tuple" ∧ ot.data = .seq #[v₁ i, v₂ i] nt) ∧
    ∀ i, i < ns.length → ∃ n r t ld, ns[i]? = some n ∧ v₁ i = .ref ld ∧ v₂ i = .bool (allows n) ∧ RowAt w news (r, t, ld) n := by
  obtain ⟨ds, rfl, rfl, c⟩ := x
  refine ⟨fun i => .ref (ds.getD i (0, 0, 0)).2.2, fun i => .bool (allows (ns.getD i 0)), fun i v h => ?_, fun i hi => ?_⟩
  · rw [List.getElem?_map] at h
    cases hd : ds[i]? with
    | none => rw [hd] at h; cases h
    | some d =>
      rw [hd] at h
      obtain ⟨n, hn, hR⟩ := c.get hd
      cases h
      obtain ⟨_, ⟨k, hm⟩, _⟩ := hR
      exact ⟨d.2.1, _, k, rfl, hm, rfl, by simp [List.getD_eq_getElem?_getD, hd, hn]⟩
  · have hl := c.length
    have hd : ds[i]? = some ds[i] := by simp [hl, hi]
    obtain ⟨n, hn, hR⟩ := c.get hd
    exact ⟨n, ds[i].1, ds[i].2.1, ds[i].2.2, hn, by simp [List.getD_eq_getElem?_getD, hd], by simp [List.getD_eq_getElem?_getD, hn], hR⟩

theorem long_sub {w : World} {A : Around} {E : Value → Shared → Prop} {s : Shared} {h₀ : Heap} {L ld : Addr} {news : List (Addr × Obj)} {value slice : PySem.Expr} {nm : Str} {tn : Tok} {n : Int} {t1 t2 t3 : Tok} {Q : Value → Shared → Prop}
    (N : News h₀ L s.heap news) (hL : LongsAt w news ld (longKvs n t1 t2 t3)) (hnm : NameOk nm) (h : ∀ t, Q (.int (longOf nm n) t) { s with toks := s.toks + 1 })
    (hs : subscripted slice false (.ref ld) (.str nm tn) = operate [.ref ld, .str nm tn] (getItem (.ref ld) (.str nm tn)) := by with_unfolding_all rfl) :
    wpAny (model PySem.Challenge.pw_wy0073_01 w) A (subscriptTail value slice (.ref ld) (.str nm tn)) Q E s := by
  obtain ⟨o, D, hm, lo, hd, hf⟩ := hL
  obtain ⟨t, ht⟩ := value_long hnm n t1 t2 t3
  exact tab_tail (knd := strKind _ _) (enc := PyData.str) (TabAt.ofNews N hm lo hd hf) (wpAny_getItem_of (knd := strKind _ _) (strKind_is _ _ _ _) (Heap.dictOf_iff.mpr ⟨o, (N _ hm).1, hd⟩).mapOf ht (h t)) hs
theorem LongsAt.in6 {w : World} {h₀ h : Heap} {L ld : Addr} {x1 x2 x3 x4 x5 x6 : Addr × Obj} {news : List (Addr × Obj)} {kvs : List (Str × Value)} (_N : News h₀ L h (x1 :: x2 :: x3 :: x4 :: x5 :: x6 :: news)) (hL : LongsAt w news ld kvs) : LongsAt w (x1 :: x2 :: x3 :: x4 :: x5 :: x6 :: news) ld kvs :=
  hL.mono fun p hp => by simp [hp]
theorem LongsAt.in8 {w : World} {h₀ h : Heap} {L ld : Addr} {x1 x2 x3 x4 x5 x6 x7 x8 : Addr × Obj} {news : List (Addr × Obj)} {kvs : List (Str × Value)} (_N : News h₀ L h (x1 :: x2 :: x3 :: x4 :: x5 :: x6 :: x7 :: x8 :: news)) (hL : LongsAt w news ld kvs) : LongsAt w (x1 :: x2 :: x3 :: x4 :: x5 :: x6 :: x7 :: x8 :: news) ld kvs :=
  hL.mono fun p hp => by simp [hp]
/-- the ints of a list of values -/
def IsInt (v : Value) (n : Int) : Prop := ∃ t, v = .int n t
theorem ints_of {vs : List Value} {ns : List Int} (x : All2 IsInt vs ns) : IntsAre vs ns := by
  induction x with
  | nil => exact .nil
  | cons h _ ih => obtain ⟨t, rfl⟩ := h; exact .cons _ _ ih
end

section
set_option maxRecDepth 100000
open PySem PySem.Spec PySem.Calls PyProof.Rows PyProof.Rows.LCg

/-! ## A comprehension over a ledger's list of pairs, with one test -/
section
variable {prog : Program} {w : World} {A : Around} {E : Value → Shared → Prop} {s : Shared} {h₀ : Heap} {L : Addr} {m : Str → Option Value} {env : Env}

/-- what a turn asks: the pair's two values under their names -/
def TurnPT (prog : Program) (w : World) (A : Around) (h₀ : Heap) (L : Addr) (m : Str → Option Value) (env : Env) (c elt : PySem.Expr) (x x₂ : Str) (scope : Scope) (cl : List (Str × Addr)) (s : Shared) (news : List (Addr × Obj)) (n : Nat) (v₁ v₂ : Nat → Value) (J : Nat → List Value → Prop) : Prop :=
  ∀ i ys I oI C oC D m₂ h tk (E' : Value → Shared → Prop), i < n → J i ys → NsObj oC m₂ → m₂ x = some (v₁ i) → m₂ x₂ = some (v₂ i) → Fr h₀ L h m → News h₀ L h ((I, oI) :: (C, oC) :: (D, lst ys) :: news) → Off3 I C D news → ((@Ne Nat I C) ∧ (@Ne Nat I D) ∧ (@Ne Nat C D)) →
    wpAny (model prog w) A (isTrue c (compEnvC scope cl C env) (eval c (compEnvC scope cl C env))) (fun ok s' => if ok = true then
      wpAny (model prog w) A (eval elt (compEnvC scope cl C env)) (fun y => CEnd h₀ L m I oI C oC D ys news { s with heap := h, toks := tk } (J (i + 1) (ys ++ [y]))) E' s'
      else CEnd h₀ L m I oI C oC D ys news { s with heap := h, toks := tk } (J (i + 1) ys) s') E' { s with heap := h, toks := tk }

def SrcPT (prog : Program) (w : World) (A : Around) (h₀ : Heap) (L : Addr) (m : Str → Option Value) (env : Env) (c elt : PySem.Expr) (x x₂ : Str) (scope : Scope) (cl : List (Str × Addr)) (Q : Value → Shared → Prop) (xv : Value) (s₁ : Shared) : Prop :=
  ∃ ax its nk news v₁ v₂ J, xv = .ref ax ∧ A.handled = none ∧ Fr h₀ L s₁.heap m ∧ News h₀ L s₁.heap news ∧ (ax, listOf its nk) ∈ news ∧ its.size ≤ sizeLine ∧
    (∀ i v, its[i]? = some v → ∃ t ot nt, v = .ref t ∧ (t, ot) ∈ news ∧ ot.cls = .type "tuple" ∧ ot.data = .seq #[v₁ i, v₂ i] nt) ∧ J 0 [] ∧
    (∀ g, TurnPT prog w A h₀ L m env c elt x x₂ scope cl { s₁ with heap := g } news its.size v₁ v₂ J) ∧
    ∀ ys D h tk, J its.size ys → Fr h₀ L h m → News h₀ L h ((D, lst ys) :: news) → Off1 D news → Q (.ref D) { s₁ with heap := h, toks := tk }

theorem lst_push (ys : List Value) (y : Value) (h : Heap) (D : Addr) (e : h.get? D = some { cls := .type "list", data := .seq (ys.toArray.push y) (ys.length + 1) }) : h.get? D = some (lst (ys ++ [y])) := e.trans (congrArg some (lst_snoc ys y))

theorem pt_loop {elt c iter : PySem.Expr} {x x₂ : Str} {px px₂ tp : Pos} {kk : Nat} {scope : Scope} {cl : List (Str × Addr)} {pos : Pos} {I ax C D : Addr} {its : Array Value} {nk : Nat} {news : List (Addr × Obj)} {v₁ v₂ : Nat → Value} {J : Nat → List Value → Prop} {RR : Result → Shared → Prop} {m₁ : Str → Option Value} {s₀ : Shared}
    (hh : A.handled = none) (hkind : scope.kind = .function) (hx : scope.names.lookup x = some .local) (hx₂ : scope.names.lookup x₂ = some .local) (hxx : x ≠ x₂) (hax : (ax, listOf its nk) ∈ news) (hsz : its.size ≤ sizeLine)
    (htup : ∀ i v, its[i]? = some v → ∃ t ot nt, v = .ref t ∧ (t, ot) ∈ news ∧ ot.cls = .type "tuple" ∧ ot.data = .seq #[v₁ i, v₂ i] nt) (hJ : J 0 [])
    (turn : TurnPT prog w A h₀ L m env c elt x x₂ scope cl s₀ news its.size v₁ v₂ J)
    (hIC : @Ne Nat I C) (hID : @Ne Nat I D) (hCD : @Ne Nat C D) (hIL : @Ne Nat I L) (hCL : @Ne Nat C L) (hDL : @Ne Nat D L) (hI₀ : h₀.get? I = none) (hC₀ : h₀.get? C = none) (hD₀ : h₀.get? D = none) (off : Off3 I C D news)
    (h₁ : Heap) (tk₁ : Nat) (hit : h₁.IsListIter I ax 0) (F : Fr h₀ L h₁ m) (hns : h₁.Ns C m₁) (N : News h₀ L h₁ ((D, lst []) :: news))
    (fin : ∀ ys h tk m', J its.size ys → Fr h₀ L h m → h.Ns C m' → News h₀ L h ((D, lst ys) :: news) → RR (.ok .next) { s₀ with heap := h, toks := tk }) :
    codeAny (model prog w) A (.compLoop (.ListComp elt [⟨.Tuple [.Name x px, .Name x₂ px₂] kk tp, iter, [c], 0⟩] scope pos) 0 (.ref I) (.ref D) (compEnvC scope cl C env)) RR { s₀ with heap := h₁, toks := tk₁ } := by
  have off3 := off.mem
  have hLax : ax ≠ I := (off3 _ hax).1
  refine kct_loop (fun k s' => ∃ h' tk i ys m', s' = { s₀ with heap := h', toks := tk } ∧ i ≤ its.size ∧ k = its.size + 1 - i ∧ ys.length ≤ i ∧ h'.IsListIter I ax i ∧ Fr h₀ L h' m ∧ h'.Ns C m' ∧ News h₀ L h' ((D, lst ys) :: news) ∧ J i ys) ?_ (its.size + 1)
    ⟨h₁, tk₁, 0, [], m₁, rfl, Nat.zero_le _, rfl, Nat.le_refl _, hit, F, hns, N, hJ⟩
  rintro k s' ⟨h', tk, i, ys, m', rfl, hi, rfl, hyl, hit', F', hn', N', hJ'⟩
  have hlist : ∀ {h : Heap} {zs : List Value}, News h₀ L h ((D, lst zs) :: news) → h.IsList ax its := fun N => ⟨_, (N _ (List.mem_cons_of_mem _ hax)).1, rfl, nk, rfl⟩
  by_cases hlt : i < its.size
  · refine wpAny_pyNext_list_item hit' (hlist N') (x := its[i]) (by simp [hlt]) fun h₂ hit₂ hs₂ => ?_
    obtain ⟨t, ot, nt, hv, hmt, hct, hdt⟩ := htup i its[i] (by simp [hlt])
    have eI : ∀ b o, b ≠ I → h'.get? b = some o → h₂.get? b = some o := fun b o hb e => hs₂.extBut b o hb e
    have N₂ : News h₀ L h₂ ((D, lst ys) :: news) := fun p hp => ⟨eI _ _ (by
      rcases List.mem_cons.mp hp with rfl | hp
      · exact Ne.symm hID
      · exact (off3 p hp).1) (N' p hp).1, (N' p hp).2⟩
    have F₂ : Fr h₀ L h₂ m := F'.change hs₂ hIL hI₀
    have hn₂ : h₂.Ns C m' := hn'.at' fun o e => eI _ o (Ne.symm hIC) e
    dsimp only
    rw [hv]
    refine wpAny_letOwnedTupleGo_listiter hit₂ ?_
    have ht : IsTup h₂ t #[v₁ i, v₂ i] := ⟨ot, (N₂ _ (List.mem_cons_of_mem _ hmt)).1, hct, nt, hdt⟩
    refine assign_Tuple_tuple hh ht rfl rfl fun h₃ he => ?_
    have he' : ∀ b o, h₂.get? b = some o → h₃.get? b = some o := fun b o e => he b o (Nat.ne_of_lt (Heap.lt_size e)) e
    refine assignInOrder_cons (wpAny_assign_Name (wpAny_storeName_local (lookup_relabel_local hx) (hn₂.at' fun o e => he' _ o e) (fun h₄ hn₄ hs₄ => ?_) (by simp [compEnvC, relabel, hkind])))
    refine assignInOrder_cons (wpAny_assign_Name (wpAny_storeName_local (lookup_relabel_local hx₂) hn₄ (fun h₅ hn₅ hs₅ => ?_) (by simp [compEnvC, relabel, hkind])))
    refine assignInOrder_nil ?_
    have up : ∀ b o, b ≠ C → h₂.get? b = some o → h₅.get? b = some o := fun b o hb e => hs₅.extBut b o hb (hs₄.extBut b o hb (he' b o e))
    have F₅ : Fr h₀ L h₅ m := ((F₂.keeps he').change hs₄ hCL hC₀).change hs₅ hCL hC₀
    obtain ⟨oI, hoI, hoI1, hoI2⟩ := hit₂
    obtain ⟨oC, hoC, hoC'⟩ := ns_obj hn₅
    have N₅ : News h₀ L h₅ ((I, oI) :: (C, oC) :: (D, lst ys) :: news) := fun p hp => by
      rcases List.mem_cons.mp hp with rfl | hp
      · exact ⟨up _ _ hIC hoI, hIL, hI₀⟩
      rcases List.mem_cons.mp hp with rfl | hp
      · exact ⟨hoC, hCL, hC₀⟩
      refine ⟨up _ _ ?_ (N₂ p hp).1, (N₂ p hp).2⟩
      rcases List.mem_cons.mp hp with rfl | hp
      · exact Ne.symm hCD
      · exact (off3 p hp).2.1
    refine wpAny_mono (turn i ys I oI C oC D _ h₅ _ _ hlt hJ' hoC' (by simp [hxx]) (by simp) F₅ N₅ off ⟨hIC, hID, hCD⟩) (fun ok s₆ h₆ => ?_) fun _ _ e => e
    cases ok with
    | false =>
      simp only [Bool.false_eq_true, if_false] at h₆ ⊢
      obtain ⟨h₇, tk₇, rfl, F₇, N₇, j₇⟩ := h₆
      exact ⟨its.size + 1 - (i + 1), by omega, h₇, tk₇, i + 1, ys, _, rfl, hlt, rfl, Nat.le_succ_of_le hyl, ⟨oI, (N₇ _ (List.mem_cons_self ..)).1, hoI1, hoI2⟩, F₇, hoC'.ns (N₇ _ (List.mem_cons_of_mem _ (List.mem_cons_self ..))).1, fun p hp => N₇ p (List.mem_cons_of_mem _ (List.mem_cons_of_mem _ hp)), j₇⟩
    | true =>
      simp only [if_true] at h₆ ⊢
      refine wpAny_mono h₆ (fun y s₇ h₇ => ?_) fun _ _ e => e
      obtain ⟨h₇, tk₇, rfl, F₇, N₇, j₇⟩ := h₇
      have zD := (N₇ (D, lst ys) (List.mem_cons_of_mem _ (List.mem_cons_of_mem _ (List.mem_cons_self ..)))).1
      refine append_at (hsz := by show ys.toArray.size ≤ sizeLine; rw [List.size_toArray]; exact Nat.le_trans (Nat.le_trans hyl hi) hsz) zD fun h₈ hs₈ hD₈ => ?_
      refine ⟨its.size + 1 - (i + 1), by omega, h₈, tk₇, i + 1, ys ++ [y], _, rfl, hlt, rfl, by rw [List.length_append, List.length_singleton]; exact Nat.succ_le_succ hyl, ⟨oI, hs₈.extBut _ _ hID (N₇ _ (List.mem_cons_self ..)).1, hoI1, hoI2⟩, F₇.change hs₈ hDL hD₀, (hoC'.ns (N₇ _ (List.mem_cons_of_mem _ (List.mem_cons_self ..))).1).sameBut hs₈ hCD, fun p hp => ?_, j₇⟩
      rcases List.mem_cons.mp hp with rfl | hp
      · exact ⟨lst_push _ _ _ _ hD₈, hDL, hD₀⟩
      · have z := N₇ p (List.mem_cons_of_mem _ (List.mem_cons_of_mem _ (List.mem_cons_of_mem _ hp)))
        exact ⟨hs₈.extBut _ _ (off3 p hp).2.2 z.1, z.2⟩
  · obtain rfl : i = its.size := Nat.le_antisymm hi (Nat.not_lt.mp hlt)
    refine wpAny_pyNext_list_end hh hit' (hlist N') (by simp) fun h₂ he => ?_
    have up : ∀ b o, b ≠ I → h'.get? b = some o → h₂.get? b = some o := fun b o hb e => he b o hb e
    refine fin ys h₂ tk m' hJ' ⟨F'.ns.at' fun o e => up _ o (Ne.symm hIL) e, fun b o e => up b o (fun q => by rw [q, hI₀] at e; cases e) (F'.keep b o e), F'.above⟩ (hn'.at' fun o e => up _ o (Ne.symm hIC) e) fun p hp => ⟨up _ _ ?_ (N' p hp).1, (N' p hp).2⟩
    rcases List.mem_cons.mp hp with rfl | hp
    · exact Ne.symm hID
    · exact (off3 p hp).1

theorem ListComp_PT {elt c iter : PySem.Expr} {x x₂ : Str} {px px₂ tp : Pos} {kk : Nat} {scope : Scope} {cl : List (Str × Addr)} {pos : Pos} {Q : Value → Shared → Prop} (_F₀ : Fr h₀ L s.heap m)
    (hclos : closureFor scope env = pure cl) (hcell : ∀ y ∈ scope.names, y.2 ≠ .cell) (hkind : scope.kind = .function)
    (hnames : ∀ y ∈ scope.names, y.2 = .local → scope.names.lookup y.1 = some .local) (hx : scope.names.lookup x = some .local) (hx₂ : scope.names.lookup x₂ = some .local) (hxx : x ≠ x₂)
    (h : wpAny (model prog w) A (eval iter env) (SrcPT prog w A h₀ L m env c elt x x₂ scope cl Q) E s)
    (hs : ∀ x, foldedSetIterable iter env x = pure x := by intro _; rfl) :
    wpAny (model prog w) A (eval (.ListComp elt [⟨.Tuple [.Name x px, .Name x₂ px₂] kk tp, iter, [c], 0⟩] scope pos) env) Q E s := by
  rw [eval_ListComp]
  refine wpAny_comprehension_free (use := none) rfl hs hclos hkind hnames (wpAny_mono h (fun xv s₁ h₁ => ?_) fun _ _ e => e)
  obtain ⟨ax, its, nk, news, v₁, v₂, J, rfl, hh, F, N, hax, hsz, htup, hJ, turn, fin⟩ := h₁
  have hl : s₁.heap.IsList ax its := ⟨_, (N _ hax).1, rfl, nk, rfl⟩
  refine wpAny_pyIter_list hl ?_
  have hlt : ∀ p ∈ news, p.1 < s₁.heap.objs.size := fun p hp => Heap.lt_size (N p hp).1
  have F1 := F.push { cls := .type "list_iterator", data := .fields #[.ref ax, .int 0 0] }
  have N1 : News h₀ L (s₁.heap.push { cls := .type "list_iterator", data := .fields #[.ref ax, .int 0 0] }) news := N.grown fun _ _ e => Heap.get?_push_of_some _ e
  refine wpAny_newObj_type (wpAny_newFunctionEnv hcell (by intro y hy; simp at hy) (fun h₁ hns₁ hsb₁ => ?_) hkind)
  dsimp only at hns₁ hsb₁ ⊢
  generalize hHI : s₁.heap.push { cls := .type "list_iterator", data := .fields #[.ref ax, .int 0 0] } = HI at hns₁ hsb₁ F1 N1 ⊢
  have sI : HI.objs.size = s₁.heap.objs.size + 1 := by rw [← hHI, Heap.size_push]
  have eI : HI.get? s₁.heap.objs.size = some { cls := .type "list_iterator", data := .fields #[.ref ax, .int 0 0] } := by rw [← hHI]; exact Heap.get?_push_size _ rfl
  generalize hHD : HI.push { cls := .type "list", dict := none, data := .seq ([] : List Value).toArray } = HD at hns₁ hsb₁ ⊢
  have sD : HD.objs.size = s₁.heap.objs.size + 2 := by rw [← hHD, Heap.size_push, sI]
  have eD : HD.get? HI.objs.size = some (lst []) := by rw [← hHD]; exact Heap.get?_push_size _ rfl
  have upD : ∀ b o, HI.get? b = some o → HD.get? b = some o := fun b o e => by rw [← hHD]; exact Heap.get?_push_of_some _ e
  have up : ∀ b o, HD.get? b = some o → h₁.get? b = some o := fun b o e => hsb₁.extBut b o (Nat.ne_of_lt (Heap.lt_size e)) (Heap.get?_push_of_some _ e)
  have fresh : ∀ a, s₁.heap.objs.size ≤ a → h₀.get? a = none := fun a ha => by
    cases e : h₀.get? a with
    | none => rfl
    | some o' => exact absurd (Heap.lt_size (F.keep a o' e)) (Nat.not_lt.mpr ha)
  have hLlt : L < s₁.heap.objs.size := F.ns.lt
  have loop : ∀ (RR : Result → Shared → Prop), (∀ ys h tk m', J its.size ys → Fr h₀ L h m → h.Ns HD.objs.size m' → News h₀ L h ((HI.objs.size, lst ys) :: news) → RR (.ok .next) { s₁ with heap := h, toks := tk }) →
      codeAny (model prog w) A (.compLoop (.ListComp elt [⟨.Tuple [.Name x px, .Name x₂ px₂] kk tp, iter, [c], 0⟩] scope pos) 0 (.ref s₁.heap.objs.size) (.ref HI.objs.size) (compEnvC scope cl HD.objs.size env)) RR { s₁ with heap := h₁, toks := s₁.toks + ([] : List (Str × Value)).length } := by
    intro RR hRR
    refine pt_loop (s₀ := { s₁ with heap := HI }) hh hkind hx hx₂ hxx hax hsz htup hJ (turn HI) (by show (_ : Nat) ≠ _; omega) (by show (_ : Nat) ≠ _; omega) (by show (_ : Nat) ≠ _; omega) (by show (_ : Nat) ≠ _; exact Nat.ne_of_gt hLlt) (by show (_ : Nat) ≠ _; rw [sD]; exact Nat.ne_of_gt (Nat.lt_of_lt_of_le hLlt (by omega))) (by show (_ : Nat) ≠ _; rw [sI]; exact Nat.ne_of_gt (Nat.lt_of_lt_of_le hLlt (by omega)))
      (fresh _ (Nat.le_refl _)) (fresh _ (by rw [sD]; exact Nat.le_add_right ..)) (fresh _ (by rw [sI]; exact Nat.le_add_right ..)) (Off3.of fun p hp => ⟨Nat.ne_of_lt (hlt p hp), by rw [sD]; exact Nat.ne_of_lt (Nat.lt_of_lt_of_le (hlt p hp) (Nat.le_add_right ..)), by rw [sI]; exact Nat.ne_of_lt (Nat.lt_of_lt_of_le (hlt p hp) (Nat.le_add_right ..))⟩)
      h₁ _ ⟨_, up _ _ (upD _ _ eI), rfl, rfl⟩ (F1.keeps fun b o e => up _ _ (upD _ _ e)) hns₁ (fun p hp => ?_) hRR
    rcases List.mem_cons.mp hp with rfl | hp
    · exact ⟨up _ _ eD, by show (_ : Nat) ≠ _; rw [sI]; exact Nat.ne_of_gt (Nat.lt_of_lt_of_le hLlt (by omega)), fresh _ (by rw [sI]; exact Nat.le_add_right ..)⟩
    · exact ⟨up _ _ (upD _ _ (N1 p hp).1), (N1 p hp).2⟩
  refine' codeAny_compStart_list (loop _ ?f) (wpAny_pyIter_listiter ⟨_, up _ _ (upD _ _ eI), rfl, rfl⟩ (loop _ ?f))
  intro ys h tk m' hj F' hn' N'
  have hCL : (HD.objs.size : Nat) ≠ L := by rw [sD]; exact Nat.ne_of_gt (Nat.lt_of_lt_of_le hLlt (by omega))
  have hC0 : h₀.get? HD.objs.size = none := fresh _ (by rw [sD]; exact Nat.le_add_right ..)
  have hDC : (HI.objs.size : Nat) ≠ HD.objs.size := by rw [sI, sD]; omega
  have hpC : ∀ p ∈ news, p.1 ≠ HD.objs.size := fun p hp => by rw [sD]; exact Nat.ne_of_lt (Nat.lt_of_lt_of_le (hlt p hp) (Nat.le_add_right ..))
  refine ⟨m', hn', fun h'' hs'' => ?_⟩
  have hs3 : Heap.SameBut HD.objs.size h h'' := hs''
  refine fin ys _ h'' tk hj (F'.change hs3 hCL hC0) (fun p hp => ⟨hs3.extBut _ _ ?_ (N' p hp).1, (N' p hp).2⟩) ?_
  · rcases List.mem_cons.mp hp with rfl | hp
    · exact hDC
    · exact hpC p hp
  · refine Off3.one (I := s₁.heap.objs.size) (C := HD.objs.size) (Off3.of fun p hp => ⟨Nat.ne_of_lt (hlt p hp), hpC p hp, by rw [sI]; exact Nat.ne_of_lt (Nat.lt_of_lt_of_le (hlt p hp) (Nat.le_add_right ..))⟩)
end
end

section
set_option maxRecDepth 100000
open PySem PySem.Spec PySem.Calls PyProof.Rows PyProof.V
local macro_rules | `(tactic| k_all) => `(tactic| first | exact List.forall_mem_nil _ | (refine' List.forall_mem_cons.mpr ⟨?a, ?b⟩; (case a => k_ne); (case b => k_all)) | assumption | ((repeat (rename _ ∧ _ => hX; obtain ⟨hX1, hX2⟩ := hX)); first | exact allLt_ne (by assumption) (by omega) | exact raw_ne (by assumption) (by omega) | exact allGe_ne (by assumption) (by omega) | (refine forall_app ?a ?b; (case a => k_all); (case b => k_all)) | (rename AllLt _ _ => hY; clear hY; k_all) | (rename AllGe _ _ => hY; clear hY; k_all)))
local macro_rules | `(tactic| walk_at "eval ListComp") => `(tactic| (k_here; (with_reducible show wpAny _ _ (eval (Expr.ListComp _ [⟨Expr.Tuple _ _ _, _, [_], _⟩] _ _) _) _ _ _); k_dflt (refine ListComp_PT (_F₀ := by k_asm) (by with_unfolding_all rfl) (by decide) (by rfl) (by decide) (by rfl) (by rfl) (by decide) ?_)))
local macro_rules | `(tactic| walk_at "eval ListComp") => `(tactic| (k_here; (with_reducible show wpAny _ _ (eval (Expr.ListComp _ [⟨Expr.Tuple _ _ _, _, [], _⟩] _ _) _) _ _ _); k_dflt (refine LCp.ListComp_P (F₀ := by k_asm) (by with_unfolding_all rfl) (by decide) (by rfl) (by decide) (by rfl) (by rfl) (by decide) ?_)))
local macro_rules | `(tactic| walk_at "subscriptTail") => `(tactic| (k_here; (with_reducible show wpAny _ _ (subscriptTail _ _ (Value.ref _) (Value.str _ _)) _ _ _); k_dflt (refine' long_sub ?N ?L ?n ?_ ?hs; (case N => k_asm); (case L => assumption); (case n => assumption); (case hs => with_unfolding_all rfl); k_whole); intro t'; (try dsimp only)))

theorem hit_yes {nm : Str} {M : Int} {ns : List Int} {i : Nat} {n : Int} {zs : List Value} {t : Tok} (hJ : All2 IsInt zs (((ns.take i).filter (hits nm M)).map (fun _ => 1))) (hn : ns[i]? = some n) (h : hits nm M n = true) :
    All2 IsInt (zs ++ [.int 1 t]) (((ns.take (i + 1)).filter (hits nm M)).map (fun _ => 1)) := by
  rw [take_snoc hn, List.filter_append, List.map_append]
  have : [n].filter (hits nm M) = [n] := by simp [h]
  rw [this]; exact hJ.append (.cons ⟨t, rfl⟩ .nil)
theorem hit_no {nm : Str} {M : Int} {ns : List Int} {i : Nat} {n : Int} {zs : List Value} (hJ : All2 IsInt zs (((ns.take i).filter (hits nm M)).map (fun _ => 1))) (hn : ns[i]? = some n) (h : hits nm M n = false) :
    All2 IsInt zs (((ns.take (i + 1)).filter (hits nm M)).map (fun _ => 1)) := by
  rw [take_snoc hn, List.filter_append, List.map_append]
  have : [n].filter (hits nm M) = [] := by simp [h]
  rw [this]; simpa using hJ

set_option maxHeartbeats 1000000 in
theorem lawallowed_call {p : Program} {loose : List Str} {mean : ExcName → Option Value} {mg mb : Str → Option Value} {w : World}
   (dp un : Nat) (gd : Option (List Code)) (cn : Str) (cs : Scope) (a : Addr) (ccd : Value) (cl : List (Str × Addr)) (outer : List Env) (A₀ : Around) (base h₀ : Heap) (L : Addr) (m : Str → Option Value) (s : Shared) (Q E : Value → Shared → Prop) (news : List (Addr × Obj)) (rl : Addr) (rs ts : List Value) (ns : List Int) (nm : Str) (tn : Tok)
    (B : Below A₀ base outer h₀) (F : Fr h₀ L s.heap m) (X : (Mine.hd.heap_39 w.params).In h₀) (N : News h₀ L s.heap news) (T : Top p loose mean mg mb h₀) (C : CodeHd base 69 65) (hk : cs.kind = .function)
    (hl : ListAt news rl ts) (hR : RowsAre w news rs ts ns) (h63 : ns.length ≤ 63) (hnm : NameOk nm)
    (hdp : dp + 40 < recursionLimit) (hun : un + 400 < cLine)
    (hret : ∀ h' tk', Fr h₀ L h' m → News h₀ L h' news → Q (.bool (foldA nm ns).2) { s with heap := h', toks := tk' }) :
    wpAny (model PySem.Challenge.pw_wy0073_01 w) (ktrTop dp un gd cn cs L a ccd cl outer) (call (.ref 75) [.ref rl, .str nm tn]) Q E s := by
  obtain ⟨nl, hl⟩ := hl
  refine wpAny_call ?_
  k_enter
  k_steps
  rename News _ _ _ _ => NN
  rename Fr _ _ _ _ => FF
  obtain ⟨v₁, v₂, htup, hrow⟩ := rows_tup hR
  have hsz : ts.toArray.size ≤ sizeLine := by rw [sizeLine_eq, List.size_toArray, hR.len2]; omega
  refine LCp.SrcLP.ledger (its := ts.toArray) (k := nl) (by rfl) FF NN (by simp [hl]) hsz ?_
  intro g
  refine restP (fun i ys => All2 IsInt ys ((ns.take i).map (longOf nm))) (.inr ⟨listOf ts.toArray nl, by simp [hl], rfl, nl, rfl⟩) v₁ v₂ (fun i v _ hv => ?_) ?_ ?_ _ 0 [] (Nat.zero_add _) .nil
  · obtain ⟨t, ot, nt, e1, e2, e3⟩ := htup i v (by simpa using hv)
    exact ⟨t, ot, nt, e1, by simp [e2], e3⟩
  · clear FF NN
    intro i ys I oI C oC D m₂ h tk E' hi hJ hC hx hx₂ FF NN off ne
    obtain ⟨n, r, t, ld, hn, q1, q2, _, _, u1, u2, u3, hL⟩ := hrow i (by simpa [hR.len2] using hi)
    rw [q1] at hx
    rw [q2] at hx₂
    replace hL := LongsAt.in6 NN hL
    k_steps
    exact ⟨_, _, rfl, by k_asm, by k_asm, by rw [take_snoc hn, List.map_append]; exact hJ.append (.cons ⟨_, rfl⟩ .nil)⟩
  · clear FF NN
    intro ys hJ
    rw [List.size_toArray, hR.len2, List.take_length] at hJ
    intro D h tk FF NN off
    have hI := ints_of hJ
    simp only [PyProof.Rows.LCg.Off1] at off
    k_steps
    all_goals (
      rename _ ∈ [0] ++ _ => hM1
      rename ∀ a : Int, a ∈ [0] ++ _ → _ => hM2
      have hall := allowed_two hM1 hM2)
    · rename News _ _ _ _ => kN
      refine bool_ret (Q := Q) (hret _ _ (by k_asm) (sub_news kN fun p hp => by simp [hp])) (by rw [hall]; simp_all)
    · rename News _ _ _ _ => NN
      rename Fr _ _ _ _ => FF
      obtain ⟨M, hM3⟩ : ∃ M : Int, M = _ ∧ M ∈ [0] ++ ns.map (longOf nm) := ⟨_, rfl, hM1⟩
      obtain ⟨hM4, _⟩ := hM3
      subst hM4
      refine ⟨rl, ts.toArray, nl, _, v₁, v₂, fun i zs => All2 IsInt zs (((ns.take i).filter (hits nm M)).map (fun _ => 1)), rfl, rfl, FF, NN, by simp [hl], hsz, fun i v hv => ?_, .nil, fun g => ?_, ?_⟩
      · obtain ⟨t, ot, nt, e1, e2, e3⟩ := htup i v (by simpa using hv)
        exact ⟨t, ot, nt, e1, by simp [e2], e3⟩
      · clear FF NN
        intro i zs I oI C oC D₂ m₂ h tk E' hi hJ₂ hC hx hx₂ FF NN off₂ ne
        obtain ⟨n, r, t, ld, hn, q1, q2, _, _, u1, u2, u3, hL⟩ := hrow i (by simpa [hR.len2] using hi)
        rw [q1] at hx
        rw [q2] at hx₂
        replace hL := LongsAt.in8 NN hL
        k_steps
        · exact ⟨_, _, rfl, by k_asm, by k_asm, hit_yes hJ₂ hn (by simp_all [hits])⟩
        · exact ⟨_, _, rfl, by k_asm, by k_asm, hit_no hJ₂ hn (by simp_all [hits])⟩
        · exact ⟨_, _, rfl, by k_asm, by k_asm, hit_no hJ₂ hn (by simp_all [hits])⟩
      · clear FF NN
        intro zs D₂ h tk hJ₂ FF NN off₂
        rw [List.size_toArray, hR.len2, List.take_length] at hJ₂
        have hI₂ := ints_of hJ₂
        k_steps
        rename News _ _ _ _ => kN
        refine bool_ret (Q := Q) (hret _ _ (by k_asm) (sub_news kN fun p hp => by simp [hp])) ?_
        rw [hall]
        rename M ≠ 0 => hM0
        have e : (M == 0) = false := by simpa using hM0
        rw [e, Bool.false_or, Bool.eq_iff_iff]
        simp [List.filter_eq_nil_iff]
end

section
set_option maxRecDepth 100000
open PySem PySem.Spec PySem.Calls PyProof.Rows PyProof.V

/-! ## Entry.applies_to -/
def headOf (nm : Str) : Str := ((Txt.split nm "/")[0]?).getD ""
def calledOf (nm : Str) : Str := Txt.lower (headOf nm)
def hasSub (x y : Str) : Bool := !(Builtin.Str.occurrences x y 0 x.length 1).isEmpty
def hitAg (c g : Str) : Bool := g != "*" && hasSub c (Txt.lower g)
def anyAg (c : Str) (gs : List Str) : Bool := gs.any (hitAg c)
theorem strs_of {as : List Value} {gs : List Str} (x : StrsAre as gs) : PyProof.Rows.StrsAre as gs := by
  induction x with
  | nil => exact .nil
  | cons h _ ih => obtain ⟨t, rfl⟩ := h; exact .cons _ _ ih

def AppJ (c : Str) (gs : List Str) (news : List (Addr × Obj)) (m₀ : Str → Option Value) (i : Nat) (m : Str → Option Value) (nx : List (Addr × Obj)) : Prop :=
  nx = news ∧ anyAg c (gs.take i) = false ∧ ∀ z : Str, z ≠ ("agent" : Str) → m z = m₀ z
section
variable {prog : Program} {w : World} {A : Around} {E : Value → Shared → Prop} {s : Shared} {env : Env} {h₀ : Heap} {body : List Stmt} {Q : Flow → Shared → Prop}
theorem app_loop {ua : Addr} {news : List (Addr × Obj)} {as : List Value} {gs : List Str} {nn : Nat} {m₀ : Str → Option Value} {c : Str}
    (hh : A.handled = none) (F : Fr h₀ env.locals s.heap m₀) (N : News h₀ env.locals s.heap news) (hl : (ua, listOf as.toArray nn) ∈ news) (hA : StrsAre as gs)
    (turn : ∀ i g t I oI h tk, gs[i]? = some g → g ∈ gs → anyAg c (gs.take i) = false → (∀ q ∈ news, q.1 ≠ I) →
      Fr h₀ env.locals h (fun y => if y = "agent" then some (.str g t) else m₀ y) → News h₀ env.locals h ((I, oI) :: news) →
      wpAny (model prog w) A (execs body env) (TPost h₀ env.locals I oI (AppJ c gs news m₀ (i + 1)) { s with heap := h, toks := tk } Q) E { s with heap := h, toks := tk })
    (done : ∀ u h tk, anyAg c gs = false → Fr h₀ env.locals h (fun y => if y = "agent" then u else m₀ y) → News h₀ env.locals h news → Q .next { s with heap := h, toks := tk }) :
    wpAny (model prog w) A (pyIter (.ref ua)) (fun it s₂ => LoopAtV prog w A h₀ env "agent" body Q E it s₂) E s := by
  refine loop_list (news := news) (lo := listOf as.toArray nn) (items := as.toArray) (n := nn) (AppJ c gs news m₀) hh rfl rfl ?_ F N ⟨rfl, rfl, fun _ _ => rfl⟩ ?_ ?_
  · rintro i m nx h ⟨rfl, _⟩ _ N'
    exact (N' _ hl).1
  · rintro i v I oI m₁ nx h tk hv ⟨rfl, ha, hm⟩ hI F₁ N₁
    obtain ⟨g, hg, t, rfl⟩ := hA.get (show as[i]? = some v by simpa using hv)
    have e1 : (fun y => if y = ("agent" : Str) then some (Value.str g t) else m₁ y) = fun y => if y = ("agent" : Str) then some (Value.str g t) else m₀ y := by
      funext z
      by_cases h1 : z = "agent"
      · simp [h1]
      · simp only [if_neg h1]; exact hm z h1
    rw [e1] at F₁
    exact turn i g t I oI h tk hg (List.mem_of_getElem? hg) ha hI F₁ N₁
  · rintro m₁ nx h tk ⟨rfl, ha, hm⟩ F₁ N₁
    have hsz : as.toArray.size = gs.length := by simp [hA.length]
    rw [hsz, List.take_length] at ha
    refine done (m₁ "agent") h tk ha ?_ N₁
    have e1 : (fun y => if y = ("agent" : Str) then m₁ "agent" else m₀ y) = m₁ := by
      funext z
      by_cases h1 : z = "agent"
      · simp [h1]
      · simp only [if_neg h1]; exact (hm z h1).symm
    rw [e1]; exact F₁
theorem app_next {news : List (Addr × Obj)} {gs : List Str} {m₀ m' : Str → Option Value} {c g : Str} {i : Nat} {L I : Addr} {oI : Obj} {h' : Heap} {tk : Nat} {s₁ : Shared}
    (hn : gs[i]? = some g) (ha : anyAg c (gs.take i) = false) (hI : ∀ q ∈ news, q.1 ≠ I) (F : Fr h₀ L h' m') (N : News h₀ L h' ((I, oI) :: news)) (hg : hitAg c g = false)
    (hm : ∀ z : Str, z ≠ ("agent" : Str) → m' z = m₀ z) : TPost h₀ L I oI (AppJ c gs news m₀ (i + 1)) s₁ Q .next { s₁ with heap := h', toks := tk } := by
  refine ⟨h', tk, m', news, rfl, F, N, hI, rfl, ?_, hm⟩
  unfold anyAg at ha ⊢
  rw [take_snoc hn, List.any_append, ha]; simp [hg]
end
theorem any_hit {c g : Str} {gs : List Str} (h : g ∈ gs) (hg : hitAg c g = true) : anyAg c gs = true := List.any_eq_true.mpr ⟨g, h, hg⟩
theorem head_of {nm y : Str} (h : (Txt.split nm "/")[0]? = some y) : y = headOf nm := by unfold headOf; rw [h]; rfl
end

section
set_option maxRecDepth 100000
open PySem PySem.Spec PySem.Calls PyProof.Rows PyProof.V
local macro_rules | `(tactic| k_all) => `(tactic| first | exact List.forall_mem_nil _ | (refine' List.forall_mem_cons.mpr ⟨?a, ?b⟩; (case a => k_ne); (case b => k_all)) | assumption | ((repeat (rename _ ∧ _ => hX; obtain ⟨hX1, hX2⟩ := hX)); first | exact allLt_ne (by assumption) (by omega) | exact raw_ne (by assumption) (by omega) | exact allGe_ne (by assumption) (by omega) | (refine forall_app ?a ?b; (case a => k_all); (case b => k_all)) | (rename AllLt _ _ => hY; clear hY; k_all) | (rename AllGe _ _ => hY; clear hY; k_all)))
local macro_rules | `(tactic| walk_at "pyIter ref") => `(tactic| ((with_reducible show wpAny _ _ (pyIter (Value.ref _)) (fun it s₂ => LoopAtV _ _ _ _ _ _ _ _ _ it s₂) _ _); refine stop_here ?_))
local macro_rules | `(tactic| walk_at "call builtin:str.lower") => `(tactic| (k_here; (with_reducible show wpAny _ _ (call (Value.builtin "str.lower") [Value.str _ _]) _ _ _); refine SCL.lower (by first | (have hl100 := by assumption; exact Nat.le_trans hl100 (by decide)) | omega) ?_; intro _))
local macro_rules | `(tactic| k_mem) => `(tactic| first | assumption | exact List.mem_cons_self | (refine' List.mem_cons_of_mem _ ?_; k_mem))

set_option maxHeartbeats 1000000 in
theorem applies_call {p : Program} {loose : List Str} {mean : ExcName → Option Value} {mg mb : Str → Option Value} {w : World}
   (dp un : Nat) (gd : Option (List Code)) (cn : Str) (cs : Scope) (a : Addr) (ccd : Value) (cl : List (Str × Addr)) (outer : List Env) (A₀ : Around) (base h₀ : Heap) (L : Addr) (m : Str → Option Value) (s : Shared) (Q E : Value → Shared → Prop) (news : List (Addr × Obj)) (e ua ll : Addr) (dl : Value) (as : List Value) (gs : List Str) (nm : Str) (tn : Tok)
    (B : Below A₀ base outer h₀) (F : Fr h₀ L s.heap m) (X : (Mine.hd.heap_39 w.params).In h₀) (N : News h₀ L s.heap news) (T : Top p loose mean mg mb h₀) (C : CodeHd base 69 65) (hk : cs.kind = .function)
    (he : EntAt news e ua ll dl) (hl : ListAt news ua as) (hA : StrsAre as gs) (hlen : nm.length ≤ 100) (hlen2 : (headOf nm).length ≤ 100) (hg100 : ∀ g ∈ gs, g.length ≤ 100)
    (hdp : dp + 40 < recursionLimit) (hun : un + 400 < cLine)
    (hret : ∀ h' tk', Fr h₀ L h' m → News h₀ L h' news → Q (.bool (anyAg (calledOf nm) gs)) { s with heap := h', toks := tk' }) :
    wpAny (model PySem.Challenge.pw_wy0073_01 w) (ktrTop dp un gd cn cs L a ccd cl outer) (call (.ref 42) [.ref e, .str nm tn]) Q E s := by
  obtain ⟨de, a1, b1, a2, b2, a3, b3, a4, b4, he1, he2⟩ := he
  obtain ⟨nl, hl⟩ := hl
  refine wpAny_call ?_
  k_enter
  k_steps
  rename List.map _ _ = Txt.split nm _ => hlk
  rename (List.map _ _)[_]? = some _ => hy
  rw [hlk] at hy
  have hyE := head_of hy
  clear hy
  subst hyE
  dsimp only
  k_steps
  refine stop_out ?_
  rename News _ _ _ _ => NN
  rename Fr _ _ _ _ => FF
  refine app_loop (c := calledOf nm) (gs := gs) (as := as) (nn := nl) rfl FF NN (by simp [hl]) hA ?_ ?_
  · clear FF NN
    intro i g t I oI h tk hg hgm ha hI F₁ N₁
    have hl100 := hg100 g hgm
    k_steps
    · rename News _ _ _ _ => NN
      rename Fr _ _ _ _ => FF
      refine app_next hg ha hI FF NN ?_ (by intro z z1; simp [z1])
      simp_all [hitAg, hasSub, calledOf]
    · unfold TPost
      dsimp only
      k_steps
      rename News _ _ _ _ => kN
      refine bool_ret (Q := Q) (hret _ _ (by k_asm) (sub_news kN fun p hp => by simp [hp])) ?_
      exact (any_hit hgm (by simp_all [hitAg, hasSub, calledOf])).symm
    · rename News _ _ _ _ => NN
      rename Fr _ _ _ _ => FF
      refine app_next hg ha hI FF NN ?_ (by intro z z1; simp [z1])
      simp_all [hitAg, hasSub, calledOf]
  · clear FF NN
    intro u h tk ha F₁ N₁
    k_steps
    rename News _ _ _ _ => kN
    exact bool_ret (Q := Q) (hret _ _ (by k_asm) (sub_news kN fun p hp => by simp [hp])) ha.symm
end

section
set_option maxRecDepth 100000
open PySem PySem.Spec PySem.Calls PyProof.Rows PyProof.V

/-! ## lists of texts: reading and comparing -/
theorem ste_sameAll : ∀ ns ms : List Str, PySem.Spec.sameAll (ns.map PyData.str) (ms.map PyData.str) = decide (ns = ms)
  | [], [] => by simp [PySem.Spec.sameAll]
  | [], _ :: _ => by simp [PySem.Spec.sameAll]
  | _ :: _, [] => by simp [PySem.Spec.sameAll]
  | a :: r, b :: t => by
    simp only [List.map_cons, PySem.Spec.sameAll, PySem.Spec.same, ste_sameAll r t]
    by_cases h : a = b <;> by_cases h' : r = t <;> simp [h, h']
theorem ste_same (ns ms : List Str) : PySem.Spec.same (.list (ns.map PyData.str)) (.list (ms.map PyData.str)) = decide (ns = ms) := by
  simp only [PySem.Spec.same]; exact ste_sameAll ns ms
def StrOks (ns : List Str) : Prop := ∀ g ∈ ns, PyData.strOk g = true
theorem StrOks.filter {ns : List Str} (h : StrOks ns) (p : Str → Bool) : StrOks (ns.filter p) := fun g hg => h g (List.mem_filter.mp hg).1
theorem strOks_nil : StrOks [] := fun _ h => nomatch h
theorem ste_canLayAll0 : ∀ ns : List Str, StrOks ns → PyData.canLayAll0 (ns.map PyData.str) = true
  | [], _ => rfl
  | x :: r, h => by simp [PyData.canLayAll0, PyData.canLay0, ste_canLayAll0 r (fun g hg => h g (.tail _ hg)), h x (.head _)]
theorem ste_depthAll : ∀ ns : List Str, PyData.depthAll (ns.map PyData.str) = 0
  | [] => rfl
  | _ :: r => by simp [PyData.depthAll, PyData.depth, ste_depthAll r]
theorem ste_shaped (ns : List Str) (h : StrOks ns) : SeqAt.shaped (.list (ns.map PyData.str)) = true := by
  simp [SeqAt.shaped, PyData.canLay0, PyData.depth, ste_canLayAll0 ns h, ste_depthAll]
theorem ste_carried : ∀ {vs : List Value} {ns : List Str}, StrsAre vs ns → CarriedAll vs (ns.map PyData.str)
  | _, _, .nil => .nil
  | _, _, .cons ⟨t, e⟩ r => by subst e; exact .cons (.str _ t) (ste_carried r)
section
variable {prog : Program} {w : World} {A : Around} {E : Value → Shared → Prop} {s : Shared} {a b : Addr} {xs ys : List Value} {ns ms : List Str} {Q : Value → Shared → Prop}
theorem st_eq_strs (ha : s.heap.IsList a xs.toArray) (hb : s.heap.IsList b ys.toArray) (hi : StrsAre xs ns) (hj : StrsAre ys ms) (oi : StrOks ns) (oj : StrOks ms) (hu : A.units + 64 < cLine) (h : Q (.bool (decide (ns = ms))) s) :
    wpAny (model prog w) A (compareOp .Eq (.ref a) (.ref b)) Q E s :=
  eq_dataH_same (reads_newData ha (ste_carried hi)) (reads_newData hb (ste_carried hj)) (ste_shaped _ oi) (ste_shaped _ oj) hu (SeqAt.noMix_of_shape (.list .str) rfl _ _ (list_map_has fun _ => rfl) (list_map_has fun _ => rfl)) (by rw [ste_same]; exact h)
theorem st_ne_strs (ha : s.heap.IsList a xs.toArray) (hb : s.heap.IsList b ys.toArray) (hi : StrsAre xs ns) (hj : StrsAre ys ms) (oi : StrOks ns) (oj : StrOks ms) (hu : A.units + 64 < cLine) (h : Q (.bool (!decide (ns = ms))) s) :
    wpAny (model prog w) A (compareOp .NotEq (.ref a) (.ref b)) Q E s :=
  ne_dataH_same (reads_newData ha (ste_carried hi)) (reads_newData hb (ste_carried hj)) (ste_shaped _ oi) (ste_shaped _ oj) hu (SeqAt.noMix_of_shape (.list .str) rfl _ _ (list_map_has fun _ => rfl) (list_map_has fun _ => rfl)) (by rw [ste_same]; exact h)
end
theorem is_lst {h₀ h : Heap} {L a : Addr} {news : List (Addr × Obj)} {vs : List Value} {n : Nat} (N : News h₀ L h news) (hm : (a, listOf vs.toArray n) ∈ news) : h.IsList a vs.toArray := ⟨_, (N _ hm).1, rfl, n, rfl⟩
theorem in_news {prog : Program} {w : World} {A : Around} {E : Value → Shared → Prop} {s : Shared} {h₀ : Heap} {L l : Addr} {news : List (Addr × Obj)} {vs : List Value} {n : Nat} {ys : List Str} {k : Str} {t : Tok} {Q : Value → Shared → Prop}
    (N : News h₀ L s.heap news) (hm : (l, listOf vs.toArray n) ∈ news) (hi : PyProof.Rows.StrsAre vs ys)
    (h : Q (.bool (ys.any (· == k))) s) : wpAny (model prog w) A (compareOp .In (.str k t) (.ref l)) Q E s := in_list_strs (is_lst N hm) hi h
theorem hitAg_yes {c g : Str} {gs : List Str} {i : Nat} {zs : List Value} {t : Tok} (hJ : StrsAre zs ((gs.take i).filter (hitAg c))) (hn : gs[i]? = some g) (h : hitAg c g = true) :
    StrsAre (zs ++ [.str g t]) ((gs.take (i + 1)).filter (hitAg c)) := by
  rw [take_snoc hn, List.filter_append]
  have : [g].filter (hitAg c) = [g] := by simp [h]
  rw [this]; exact hJ.append (.cons ⟨t, rfl⟩ .nil)
theorem hitAg_no {c g : Str} {gs : List Str} {i : Nat} {zs : List Value} (hJ : StrsAre zs ((gs.take i).filter (hitAg c))) (hn : gs[i]? = some g) (h : hitAg c g = false) :
    StrsAre zs ((gs.take (i + 1)).filter (hitAg c)) := by
  rw [take_snoc hn, List.filter_append]
  have : [g].filter (hitAg c) = [] := by simp [h]
  rw [this]; simpa using hJ
end

section
set_option maxRecDepth 100000
open PySem PySem.Spec PySem.Calls PyProof.Rows PyProof.V
local macro_rules | `(tactic| k_all) => `(tactic| first | exact List.forall_mem_nil _ | (refine' List.forall_mem_cons.mpr ⟨?a, ?b⟩; (case a => k_ne); (case b => k_all)) | assumption | ((repeat (rename _ ∧ _ => hX; obtain ⟨hX1, hX2⟩ := hX)); first | exact allLt_ne (by assumption) (by omega) | exact raw_ne (by assumption) (by omega) | exact allGe_ne (by assumption) (by omega) | (refine forall_app ?a ?b; (case a => k_all); (case b => k_all)) | (rename AllLt _ _ => hY; clear hY; k_all) | (rename AllGe _ _ => hY; clear hY; k_all)))
local macro_rules | `(tactic| k_mem) => `(tactic| first | assumption | exact List.mem_cons_self | (refine' List.mem_cons_of_mem _ ?_; k_mem))
local macro_rules | `(tactic| walk_at "pad0") => `(tactic| fail)
local macro_rules | `(tactic| walk_at "pad1") => `(tactic| fail)
local macro_rules | `(tactic| walk_at "pad2") => `(tactic| fail)
local macro_rules | `(tactic| walk_at "pad3") => `(tactic| fail)
local macro_rules | `(tactic| walk_at "pad4") => `(tactic| fail)
local macro_rules | `(tactic| walk_at "compareOp In") => `(tactic| (k_here; (with_reducible show wpAny _ _ (compareOp CmpOp.In (Value.str _ _) (Value.ref _)) _ _ _); k_dflt (refine in_news (by k_asm) (by k_mem) (by assumption) ?_)))

/-- what both tests say of the name None -/
def starIn (gs : List Str) : Bool := gs.any (· == "*")
set_option maxHeartbeats 1000000 in
theorem applies_none {p : Program} {loose : List Str} {mean : ExcName → Option Value} {mg mb : Str → Option Value} {w : World}
   (dp un : Nat) (gd : Option (List Code)) (cn : Str) (cs : Scope) (a : Addr) (ccd : Value) (cl : List (Str × Addr)) (outer : List Env) (A₀ : Around) (base h₀ : Heap) (L : Addr) (m : Str → Option Value) (s : Shared) (Q E : Value → Shared → Prop) (news : List (Addr × Obj)) (e ua ll : Addr) (dl : Value) (as : List Value) (gs : List Str)
    (B : Below A₀ base outer h₀) (F : Fr h₀ L s.heap m) (X : (Mine.hd.heap_39 w.params).In h₀) (N : News h₀ L s.heap news) (T : Top p loose mean mg mb h₀) (C : CodeHd base 69 65) (hk : cs.kind = .function)
    (he : EntAt news e ua ll dl) (hl : ListAt news ua as) (hA : StrsAre as gs) (h63 : gs.length ≤ 63)
    (hdp : dp + 40 < recursionLimit) (hun : un + 400 < cLine)
    (hret : ∀ h' tk', Fr h₀ L h' m → News h₀ L h' news → Q (.bool (starIn gs)) { s with heap := h', toks := tk' }) :
    wpAny (model PySem.Challenge.pw_wy0073_01 w) (ktrTop dp un gd cn cs L a ccd cl outer) (call (.ref 42) [.ref e, .none]) Q E s := by
  obtain ⟨de, a1, b1, a2, b2, a3, b3, a4, b4, he1, he2⟩ := he
  obtain ⟨nl, hl⟩ := hl
  refine wpAny_call ?_
  k_enter
  have hAs := strs_of hA
  k_steps
  rename News _ _ _ _ => kN
  exact bool_ret (Q := Q) (hret _ _ (by k_asm) (sub_news kN fun p hp => by simp [hp])) rfl

set_option maxHeartbeats 1000000 in
theorem lawapplies_none {p : Program} {loose : List Str} {mean : ExcName → Option Value} {mg mb : Str → Option Value} {w : World}
   (dp un : Nat) (gd : Option (List Code)) (cn : Str) (cs : Scope) (a : Addr) (ccd : Value) (cl : List (Str × Addr)) (outer : List Env) (A₀ : Around) (base h₀ : Heap) (L : Addr) (m : Str → Option Value) (s : Shared) (Q E : Value → Shared → Prop) (news : List (Addr × Obj)) (ua : Addr) (as : List Value) (gs : List Str)
    (B : Below A₀ base outer h₀) (F : Fr h₀ L s.heap m) (X : (Mine.hd.heap_39 w.params).In h₀) (N : News h₀ L s.heap news) (T : Top p loose mean mg mb h₀) (C : CodeHd base 69 65) (hk : cs.kind = .function)
    (hl : ListAt news ua as) (hA : StrsAre as gs) (h63 : gs.length ≤ 63)
    (hdp : dp + 40 < recursionLimit) (hun : un + 400 < cLine)
    (hret : ∀ h' tk', Fr h₀ L h' m → News h₀ L h' news → Q (.bool (starIn gs)) { s with heap := h', toks := tk' }) :
    wpAny (model PySem.Challenge.pw_wy0073_01 w) (ktrTop dp un gd cn cs L a ccd cl outer) (call (.ref 80) [.ref ua, .none]) Q E s := by
  obtain ⟨nl, hl⟩ := hl
  refine wpAny_call ?_
  k_enter
  have hAs := strs_of hA
  k_steps
  rename News _ _ _ _ => kN
  exact bool_ret (Q := Q) (hret _ _ (by k_asm) (sub_news kN fun p hp => by simp [hp])) rfl
end

section
set_option maxRecDepth 100000
open PySem PySem.Spec PySem.Calls PyProof.Rows PyProof.V
local macro_rules | `(tactic| k_all) => `(tactic| first | exact List.forall_mem_nil _ | (refine' List.forall_mem_cons.mpr ⟨?a, ?b⟩; (case a => k_ne); (case b => k_all)) | assumption | ((repeat (rename _ ∧ _ => hX; obtain ⟨hX1, hX2⟩ := hX)); first | exact allLt_ne (by assumption) (by omega) | exact raw_ne (by assumption) (by omega) | exact allGe_ne (by assumption) (by omega) | (refine forall_app ?a ?b; (case a => k_all); (case b => k_all)) | (rename AllLt _ _ => hY; clear hY; k_all) | (rename AllGe _ _ => hY; clear hY; k_all)))
local macro_rules | `(tactic| walk_at "pad0") => `(tactic| fail)
local macro_rules | `(tactic| walk_at "pad1") => `(tactic| fail)
local macro_rules | `(tactic| walk_at "pad2") => `(tactic| fail)
local macro_rules | `(tactic| walk_at "call builtin:str.lower") => `(tactic| (k_here; (with_reducible show wpAny _ _ (call (Value.builtin "str.lower") [Value.str _ _]) _ _ _); refine SCL.lower (by first | (have hl100 := by assumption; exact Nat.le_trans hl100 (by decide)) | omega) ?_; intro _))
local macro_rules | `(tactic| k_mem) => `(tactic| first | assumption | exact List.mem_cons_self | (refine' List.mem_cons_of_mem _ ?_; k_mem))
local macro_rules | `(tactic| walk_at "eval ListComp") => `(tactic| (k_here; (with_reducible show wpAny _ _ (eval (Expr.ListComp _ [⟨Expr.Name _ _, _, [_], _⟩] _ _) _) _ _ _); k_dflt (refine LCt.ListComp_T (F₀ := by k_asm) (by with_unfolding_all rfl) (by decide) (by rfl) (by decide) (by rfl) ?_)))
local macro_rules | `(tactic| walk_at "compareOp NotEq ref ref") => `(tactic| (k_here; (with_reducible show wpAny _ _ (compareOp CmpOp.NotEq (Value.ref _) (Value.ref _)) _ _ _); k_dflt (refine st_ne_strs (is_lst (by k_asm) (by k_mem)) (is_lst (by k_asm) (by k_mem)) (by first | exact All2.nil | assumption) (by first | exact All2.nil | assumption) (by first | exact strOks_nil | assumption) (by first | exact strOks_nil | assumption) (by ke_room) ?_)))
local macro_rules | `(tactic| walk_at "compareOp Eq ref ref") => `(tactic| (k_here; (with_reducible show wpAny _ _ (compareOp CmpOp.Eq (Value.ref _) (Value.ref _)) _ _ _); k_dflt (refine st_eq_strs (is_lst (by k_asm) (by k_mem)) (is_lst (by k_asm) (by k_mem)) (by first | exact All2.nil | assumption) (by first | exact All2.nil | assumption) (by first | exact strOks_nil | assumption) (by first | exact strOks_nil | assumption) (by ke_room) ?_)))

set_option maxHeartbeats 1000000 in
theorem lawapplies_call {p : Program} {loose : List Str} {mean : ExcName → Option Value} {mg mb : Str → Option Value} {w : World}
   (dp un : Nat) (gd : Option (List Code)) (cn : Str) (cs : Scope) (a : Addr) (ccd : Value) (cl : List (Str × Addr)) (outer : List Env) (A₀ : Around) (base h₀ : Heap) (L : Addr) (m : Str → Option Value) (s : Shared) (Q E : Value → Shared → Prop) (news : List (Addr × Obj)) (ua : Addr) (as : List Value) (gs : List Str) (nm : Str) (tn : Tok)
    (B : Below A₀ base outer h₀) (F : Fr h₀ L s.heap m) (X : (Mine.hd.heap_39 w.params).In h₀) (N : News h₀ L s.heap news) (T : Top p loose mean mg mb h₀) (C : CodeHd base 69 65) (hk : cs.kind = .function)
    (hl : ListAt news ua as) (hA : StrsAre as gs) (h63 : gs.length ≤ 63) (hlen : nm.length ≤ 100) (hlen2 : (headOf nm).length ≤ 100) (hg100 : ∀ g ∈ gs, g.length ≤ 100) (hok : StrOks gs)
    (hdp : dp + 40 < recursionLimit) (hun : un + 400 < cLine)
    (hret : ∀ h' tk', Fr h₀ L h' m → News h₀ L h' news → Q (.bool (anyAg (calledOf nm) gs)) { s with heap := h', toks := tk' }) :
    wpAny (model PySem.Challenge.pw_wy0073_01 w) (ktrTop dp un gd cn cs L a ccd cl outer) (call (.ref 80) [.ref ua, .str nm tn]) Q E s := by
  obtain ⟨nl, hl⟩ := hl
  refine wpAny_call ?_
  k_enter
  k_steps
  rename List.map _ _ = Txt.split nm _ => hlk
  rename (List.map _ _)[_]? = some _ => hy
  rw [hlk] at hy
  have hyE := head_of hy
  clear hy
  subst hyE
  dsimp only
  rename News _ _ _ ((_, _) :: news) => N1
  have hlt := Heap.lt_size (N1 _ (.head _)).1
  dsimp only at hlt
  k_steps
  rename ∀ p ∈ news, p.1 < _ => hl1
  refine' storeX_C ?F ?N ?c ?U ?d ?_ ?a ?b
  (case a => rfl); (case b => rfl); (case F => k_asm); (case N => k_asm); (case c => rfl)
  (case U => exact UpdF.tail (Nat.ne_of_gt hlt) (UpdF.head (raw_ne hl1 (Nat.le_succ _))))
  (case d => k_asm)
  intro h' o' F' N' d'
  try dsimp only at N'
  try k_sweep
  k_steps
  rename News _ _ _ _ => NN
  rename Fr _ _ _ _ => FF
  have hsz : as.toArray.size ≤ sizeLine := by rw [sizeLine_eq, List.size_toArray, hA.length]; omega
  refine LCt.CompSrcT.ledger (its := as.toArray) (k := nl) (by rfl) FF NN (by simp [hl]) hsz ?_
  intro g
  refine restT (fun i ys => StrsAre ys ((gs.take i).filter (hitAg (calledOf nm)))) (.inr ⟨listOf as.toArray nl, by simp [hl], rfl, nl, rfl⟩) ?_ ?_ _ 0 [] (Nat.zero_add _) .nil
  · clear FF NN
    intro i v ys I oI C oC D m₂ h tk E' hi hv hJ hC hx FF NN off ne
    obtain ⟨g, hg, t, rfl⟩ := hA.get (show as[i]? = some v by simpa using hv)
    have hl100 := hg100 g (List.mem_of_getElem? hg)
    k_steps
    · exact ⟨_, _, rfl, by k_asm, by k_asm, hitAg_no hJ hg (by simp_all [hitAg, hasSub, calledOf])⟩
    · exact ⟨_, _, rfl, by k_asm, by k_asm, hitAg_yes hJ hg (by simp_all [hitAg, hasSub, calledOf])⟩
    · exact ⟨_, _, rfl, by k_asm, by k_asm, hitAg_no hJ hg (by simp_all [hitAg, hasSub, calledOf])⟩
  · clear FF NN
    intro ys hJ
    rw [List.size_toArray, hA.length, List.take_length] at hJ
    intro D h tk FF NN off
    simp only [PyProof.Rows.LCg.Off1] at off
    have hoks := hok.filter (hitAg (calledOf nm))
    k_steps
    rename News _ _ _ _ => kN
    refine bool_ret (Q := Q) (hret _ _ (by k_asm) (sub_news kN fun p hp => by simp [hp])) ?_
    rw [Bool.eq_iff_iff]
    simp [anyAg]
end

section
set_option maxRecDepth 100000
open PySem PySem.Spec PySem.Calls PyProof.Rows PyProof.V

/-! ## a set made of a list of texts -/
section
variable {prog : Program} {w : World} {A : Around} {R : Result → Shared → Prop} {I : Addr} {fp wr : List Addr} {G : Array GenState → Array GenState → Prop} {n : Nat} {P : Nat → Value → Prop} {St : Nat → Shared → Prop}

theorem set_strs_loop (W : WalksS prog w A.in1 I fp wr G n P St) (S : Addr) (hSf : S ∉ fp)
    (ys : List Str) (hys : ys.length = n) (hval : ∀ i v, P i v → ∃ y t, ys[i]? = some y ∧ v = .str y t) (hb : n + 1 < scanBound) :
    ∀ (k i c : Nat) (s : Shared), n - i = k → i ≤ n → c ≤ i → St i s →
      s.heap.SetOf (PySem.strKind prog w) S (fun k' => (ys.take i).any (· == k')) c →
      (∀ s' c', c' ≤ n → Moved (S :: wr) G s s' → s'.heap.SetOf (PySem.strKind prog w) S (fun k' => ys.any (· == k')) c' → R (.ok (.ret .none)) s') →
      codeAny (model prog w) A (.builtin "set.update.loop" ⟨[.ref S, .ref I], []⟩) R s := by
  have hSw : S ∉ wr := fun h => hSf (W.sub _ h)
  have hsub : ∀ b ∈ wr, b ∈ S :: wr := fun b hb => List.mem_cons_of_mem _ hb
  intro k
  induction k with
  | zero =>
    intro i c s hk hi hc hst hS hR
    have hin : i = n := by omega
    subst hin
    refine codeAny_builtin PyProof.Rows.F.entry_set_update_loop ?_
    rw [Around.under_plainId PyProof.Rows.F.plain_set_update_loop _]
    show wpAny _ A.in1 (pyNext (.ref I) >>= _) _ _ s
    refine wpAny_bind (W.done s _ _ hst fun s' hm => ?_)
    show wpAny _ A.in1 (ret Value.none) _ _ s'
    rw [← hys, List.take_length] at hS
    exact wpAny_pure (hR s' c hc (hm.mono hsub) (by
      obtain ⟨o, es, ep, t, ho, rest⟩ := hS
      exact ⟨o, es, ep, t, hm.heap S _ hSw ho, rest⟩))
  | succ k ih =>
    intro i c s hk hi hc hst hS hR
    have hlt : i < n := by omega
    refine codeAny_builtin PyProof.Rows.F.entry_set_update_loop ?_
    rw [Around.under_plainId PyProof.Rows.F.plain_set_update_loop _]
    show wpAny _ A.in1 (pyNext (.ref I) >>= _) _ _ s
    refine wpAny_bind (W.item i s _ _ hlt hst fun v s' hP hst' hm => ?_)
    obtain ⟨y, t, hy, rfl⟩ := hval i v hP
    have hS' : s'.heap.SetOf (PySem.strKind prog w) S (fun k' => (ys.take i).any (· == k')) c := by
      obtain ⟨o, es, ep, tb, ho, rest⟩ := hS
      exact ⟨o, es, ep, tb, hm.heap S _ hSw ho, rest⟩
    show wpAny _ A.in1 (holding [Value.str y t] (setAdd S (.str y t)) >>= _) _ _ s'
    refine wpAny_bind (wpAny_holding ?_)
    unfold setAdd
    refine wpAny_holding ?_
    refine wpAny_bind ((PySem.strKind prog w).pyHash (k := y) (strKind_is _ _ _ _) ?_)
    have hroom : c + 1 < scanBound := by omega
    refine wpAny_setAddHashed_of (knd := PySem.strKind prog w) (s := { s' with toks := s'.toks + 1 }) (strKind_is _ _ _ _) rfl hS' hroom fun h' hsb hS2 => ?_
    have hSi : ∃ c', c' ≤ i + 1 ∧ h'.SetOf (PySem.strKind prog w) S (fun k' => (ys.take (i + 1)).any (· == k')) c' := by
      refine ⟨_, ?_, SetOf_congr hS2 (fun k' => ?_) rfl⟩
      · split <;> omega
      · rw [take_snoc hy, List.any_append]
        congr 1
        simp only [List.any_cons, List.any_nil, Bool.or_false]
        by_cases e : k' = y
        · subst e; simp
        · have hb : (y == k') = false := by simpa [beq_iff_eq] using (fun h' : y = k' => e h'.symm)
          simp [hb, e]
    obtain ⟨c', hc', hSi⟩ := hSi
    refine wpAny_pure ⟨plainId_quiet PyProof.Rows.F.plain_set_update_loop _, ih (i + 1) c' _ (by omega) hlt hc' (W.frame _ s' _ _ hst' (Nat.le_succ _) fun b hb o e => ?_) hSi fun s'' c'' hc'' hm'' hS'' => ?_⟩
    · rw [hsb.2 b (fun h : b = S => hSf (by rw [← h]; exact hb))]; exact e
    · refine hR s'' c'' hc'' (Moved.trans W.gtrans ((hm.mono hsub).then_heap (Nat.le_succ _) fun b o hb e => ?_) hm'') hS''
      rw [hsb.2 b (fun h : b = S => hb (by rw [h]; exact List.mem_cons_self))]; exact e
end

section
variable {prog : Program} {w : World} {A : Around} {E : Value → Shared → Prop} {s : Shared}
set_option maxHeartbeats 3200000 in
theorem set_strs_call {l : Addr} {items : Array Value} {ys : List Str} {Q : Value → Shared → Prop}
    (hh : A.handled = none) (hl : s.heap.IsList l items) (hi : StrsAre items.toList ys) (hb : items.size + 1 < scanBound)
    (h : ∀ (h' : Heap) (tk c : Nat), c ≤ items.size → h'.SetOf (PySem.strKind prog w) s.heap.objs.size (fun k' => ys.any (· == k')) c →
      (∀ b o, b < s.heap.objs.size → s.heap.get? b = some o → h'.get? b = some o) → Q (.ref s.heap.objs.size) { s with heap := h', toks := tk }) :
    wpAny (model prog w) A (call (.type "set") [.ref l]) Q E s := by
  obtain ⟨c, tl, hmro⟩ := PySem.F.called_set.mro
  have hmade := PySem.F.called_set.made
  have hsub := PySem.F.called_set.sub
  refine wpAny_call (codeAny_of_tree ?_)
  show wpAny _ _ (callAny (.type "set") _) _ _ _
  refine wpAny_pure ⟨Code.quiet_builtin _ (by decide +kernel), codeAny_builtin PySem.F.entry_type_call ?_⟩
  rw [Around.under_plain (weight_type_call_type "set" [.ref l] []) rfl]
  have h1 := PySem.F.called_set.notType
  have h2 := PySem.F.called_set.canCreate
  have hct := PySem.F.typeCall_set_1 (.ref l)
  repeat (any_goals (first | assumption | wp_step))
  refine codeAny_mono (code_set_new_1 (.ref l) (E := E) (Q₁ := fun obj s₁ => ∃ led : Bool, obj = .ref s.heap.objs.size ∧ s₁ = { s with heap := s.heap.push { cls := .type "set", dict := none, data := .set #[] 0 (.fresh 0 0 led) } }) fun led => ⟨led, rfl, rfl⟩) fun r s₁ hr => ?_
  cases r with
  | error e => exact hr
  | ok fl =>
    cases fl with
    | ret obj =>
      obtain ⟨led, rfl, rfl⟩ := hr
      have hS : (s.heap.push { cls := .type "set", dict := none, data := .set #[] 0 (.fresh 0 0 led) }).get? s.heap.objs.size = some { cls := .type "set", dict := none, data := .set #[] 0 (.fresh 0 0 led) } := Heap.get?_push_size _ rfl
      have hT : Shared.TypeIs { s with heap := s.heap.push { cls := .type "set", dict := none, data := .set #[] 0 (.fresh 0 0 led) } } (.ref s.heap.objs.size) "set" := ⟨_, hS, rfl⟩
      have hli := PySem.F.called_set.init.lookup
      have hbi := PySem.F.called_set.init.bind (.ref s.heap.objs.size)
      repeat (any_goals (first | assumption | wp_step))
      refine codeAny_mono (codeAny_call_builtin (R := wants (fun r s₂ => r = .none ∧ ∃ h' tk c, c ≤ items.size ∧ s₂ = { s with heap := h', toks := tk } ∧
          h'.SetOf (PySem.strKind prog w) s.heap.objs.size (fun k' => ys.any (· == k')) c ∧
          (∀ b o, b < s.heap.objs.size → s.heap.get? b = some o → h'.get? b = some o)) E) PySem.F.called_set.init.plain PySem.F.entry_set_init (check_set_init_1 hT ?_)) fun r₂ s₂ hr₂ => ?_
      · obtain ⟨ol, hol, hcl, nl, hdl⟩ := hl
        obtain ⟨ocls, odict, odata, oslots⟩ := ol
        simp only at hcl hdl
        subst hcl; subst hdl
        have hol' : (s.heap.push { cls := .type "set", dict := none, data := .set #[] 0 (.fresh 0 0 led) }).get? l = some { cls := .type "list", dict := odict, data := .seq items nl, slots := oslots } := Heap.get?_push_of_some _ hol
        have hsls := PySem.F.sub_list_set
        have hslf := PySem.F.sub_list_frozenset
        have hne : (Value.type "list" == Value.type "dict") = false := by decide
        have hl1 : (s.heap.push { cls := .type "set", dict := none, data := .set #[] 0 (.fresh 0 0 led) }).IsList l items := ⟨_, hol', rfl, nl, rfl⟩
        unfold Builtin.«set.__init__» noKeywords Builtin.Frozenset.updateFrom
        generalize hPI : pyIter = PI
        wp_walk
        subst hPI
        refine wpAny_pyIter_list hl1 ?_
        refine wpAny_bind (wpAny_runValue ?_)
        have hlS : l < s.heap.objs.size := Heap.lt_size hol
        have hh3 : A.in1.in1.in1.handled = none := by simp [hh]
        have hneI : l ≠ (s.heap.push { cls := .type "set", dict := none, data := .set #[] 0 (.fresh 0 0 led) }).objs.size := by
          rw [Heap.size_push]; exact Nat.ne_of_lt (Nat.lt_succ_of_lt hlS)
        have hSf : s.heap.objs.size ∉ [(s.heap.push { cls := .type "set", dict := none, data := .set #[] 0 (.fresh 0 0 led) }).objs.size, l] := by
          rw [Heap.size_push]; simp only [List.mem_cons, List.mem_singleton, List.not_mem_nil, or_false, not_or]
          exact ⟨Nat.ne_of_lt (Nat.lt_succ_self _), Nat.ne_of_gt hlS⟩
        have hlen : ys.length = items.size := by rw [← hi.length, Array.length_toList]
        have hval : ∀ (i : Nat) (v : Value), items[i]? = some v → ∃ y t, ys[i]? = some y ∧ v = .str y t := fun i v hv => by
          obtain ⟨y, hy, t, e⟩ := hi.get (show items.toList[i]? = some v by rw [Array.getElem?_toList]; exact hv)
          exact ⟨y, t, hy, e⟩
        refine set_strs_loop ((Walks.list hh3 _ l hneI items).toS) s.heap.objs.size
          hSf ys hlen hval hb (items.size - 0) 0 0 _ (by omega) (Nat.zero_le _) (Nat.zero_le _)
          ⟨⟨_, Heap.get?_push_size _ rfl, rfl, rfl⟩, (hl1.push _)⟩ ?hS0 ?hR
        case hS0 =>
          have hget : ((s.heap.push { cls := .type "set", dict := none, data := .set #[] 0 (.fresh 0 0 led) }).push { cls := .type "list_iterator", data := .fields #[.ref l, .int 0 0] }).get? s.heap.objs.size
              = some { cls := .type "set", dict := none, data := .set #[] 0 (.fresh 0 0 led) } := Heap.get?_push_of_some _ hS
          exact SetOf_congr ((setObjOf_fresh (knd := PySem.strKind prog w) led).setOf hget (by unfold scanBound; omega)) (fun _ => rfl) rfl
        case hR =>
          intro s' c' hc' hm hS'
          obtain ⟨h', g', d', tk', os'⟩ := s'
          have eg : g' = s.gens := hm.gens
          have ed : d' = s.drawn := hm.drawn
          have eo : os' = s.os := hm.os
          subst eg; subst ed; subst eo
          show wpAny _ _ _ _ _ _
          refine wpAny_pure ?_
          show wpAny _ _ (ret Value.none) _ _ _
          refine wpAny_pure ⟨rfl, h', tk', c', hc', rfl, hS', fun b o hb e => ?_⟩
          have hb1 : b ≠ s.heap.objs.size := Nat.ne_of_lt hb
          have hb2 : b ≠ (s.heap.push { cls := .type "set", dict := none, data := .set #[] 0 (.fresh 0 0 led) }).objs.size := by
            rw [Heap.size_push]; exact Nat.ne_of_lt (Nat.lt_succ_of_lt hb)
          exact hm.heap b o (by simp only [List.mem_cons, List.mem_singleton, List.not_mem_nil, or_false, not_or]; exact ⟨hb1, hb2⟩) (Heap.get?_push_of_some _ (Heap.get?_push_of_some _ e))
      · cases r₂ with
        | error e => exact hr₂
        | ok fl₂ =>
          cases fl₂ with
          | ret r =>
            obtain ⟨rfl, h', tk, c', hc', rfl, hS', hk'⟩ := hr₂
            repeat (any_goals (first | assumption | wp_step))
            exact h _ _ _ hc' hS' hk'
          | _ => exact hr₂.elim
    | _ => exact hr.elim

theorem set_strs_N {h₀ : Heap} {L l : Addr} {m : Str → Option Value} {news : List (Addr × Obj)} {vs : List Value} {ys : List Str} {nn : Nat} {Q : Value → Shared → Prop} (F : Fr h₀ L s.heap m) (N : News h₀ L s.heap news)
    (hh : A.handled = none) (hm : (l, listOf vs.toArray nn) ∈ news) (hi : StrsAre vs ys) (h63 : ys.length ≤ 63)
    (h : ∀ x h' (tk c : Nat) o, Fr h₀ L h' m → News h₀ L h' ((x, o) :: news) → (∀ p ∈ news, p.1 < x) → o.SetObjOf (PySem.strKind prog w) (fun k' => ys.any (· == k')) c → c ≤ 63 → Q (.ref x) { s with heap := h', toks := tk }) :
    wpAny (model prog w) A (call (.type "set") [.ref l]) Q E s := by
  have hsz : vs.toArray.size = ys.length := by rw [List.size_toArray, hi.length]
  refine set_strs_call (items := vs.toArray) (ys := ys) hh ⟨_, (N _ hm).1, rfl, nn, rfl⟩ hi (by rw [hsz]; unfold scanBound; omega) fun h' tk c hc hS hk => ?_
  obtain ⟨o, ho, hso⟩ := hS.objOf
  obtain ⟨oL, _, _, hL, _⟩ := F.ns
  have hLlt : L < s.heap.objs.size := Heap.lt_size hL
  refine h _ h' tk c o ⟨F.ns.at' fun o' e => hk L o' hLlt e, fun b o' e => hk b o' (Heap.lt_size (F.keep b o' e)) (F.keep b o' e), F.above⟩ (fun p hp => ?_) (fun p hp => Heap.lt_size (N p hp).1) hso (by omega)
  rcases List.mem_cons.mp hp with rfl | hp
  · refine ⟨ho, Nat.ne_of_gt hLlt, ?_⟩
    cases hq : h₀.get? s.heap.objs.size with
    | none => rfl
    | some o' => exact absurd (Heap.lt_size (F.keep _ _ hq)) (Nat.lt_irrefl _)
  · exact ⟨hk _ _ (Heap.lt_size (N p hp).1) (N p hp).1, (N p hp).2.1, (N p hp).2.2⟩
end
end

section
set_option maxRecDepth 100000
open PySem PySem.Spec PySem.Calls PyProof.Rows PyProof.V Builtin Builtin.ObjectAttr

/-! ## the bound method `__contains__` of a set -/
def bcObj (x : Addr) : Obj := { cls := .type "builtin_function_or_method", data := .fields #[.builtin "set.__contains__", .ref x] }
theorem bs_lk_ga : typeLookup (.type "set") "__getattribute__" = pure (some (.builtin "set.__getattribute__")) := by
  rw [typeLookup_type, builtinLookup_eq_fast]; kernel_rfl
theorem bs_lk_hook : typeLookup (.type "set") "__getattr__" = pure none := by
  rw [typeLookup_type, builtinLookup_eq_fast]; kernel_rfl
theorem bs_slot_ga : Slot "set" "__getattribute__" "set.__getattribute__" :=
  .of (owner := "set") (n := "__getattribute__") bs_lk_ga (by decide +kernel) (by decide +kernel) (by decide +kernel)
    (by first | exact .inl (by decide +kernel) | exact .inr (by decide +kernel)) (by rw [isSubtype_type]; kernel_rfl)
theorem bs_entry_ga : entryFor table "set.__getattribute__" = some Builtin.«object.__getattribute__» :=
  entryFor_alias (id' := "object.__getattribute__") (by rw [fastTable_eq_tree]; kernel_rfl) rfl (by decide +kernel) (by rw [fastTable_eq_tree]; kernel_rfl)
theorem bs_args_ga (a b : Value) : argsOk "set.__getattribute__" ⟨[a, b], []⟩ := PySem.F.args_set_getattribute_2 a b
theorem md_slot_get : Slot "method_descriptor" "__get__" "method_descriptor.__get__" :=
  .of (owner := "method_descriptor") (n := "__get__") (by rw [typeLookup_type, builtinLookup_eq_fast]; kernel_rfl) (by decide +kernel) (by decide +kernel) (by decide +kernel)
    (by first | exact .inl (by decide +kernel) | exact .inr (by decide +kernel)) (by rw [isSubtype_type]; kernel_rfl)
theorem md_entry_get : entryFor table "method_descriptor.__get__" = some Builtin.«method_descriptor.__get__» := entryFor_of_tree (by kernel_rfl)
theorem md_args_get (a b c : Value) : argsOk "method_descriptor.__get__" ⟨[a, b, c], []⟩ := by unfold argsOk; kernel_rfl
theorem bc_type : typeOf (.builtin "set.__contains__") = pure (.type "method_descriptor") := by show builtinType _ = _; rw [builtinType_eq_fast]; kernel_rfl
theorem md_no_set : typeLookup (.type "method_descriptor") "__set__" = pure none := by rw [typeLookup_type, builtinLookup_eq_fast]; kernel_rfl
theorem md_no_del : typeLookup (.type "method_descriptor") "__delete__" = pure none := by rw [typeLookup_type, builtinLookup_eq_fast]; kernel_rfl

section
variable {prog : Program} {w : World} {A : Around} {E : Value → Shared → Prop} {s : Shared}
theorem md_run {x : Addr} {P : Fin → Shared → Prop} (hT : s.TypeIs (.ref x) "set") (h : P (.done (.ret (.ref s.heap.objs.size))) { s with heap := s.heap.push (bcObj x) }) :
    wpAny (model prog w) A (Builtin.«method_descriptor.__get__» ⟨[.builtin "set.__contains__", .ref x, .type "set"], []⟩) P E s := by
  unfold Builtin.«method_descriptor.__get__»
  refine wpAny_bind (wpAny_of_eq (a := (.builtin "set.__contains__", some (.ref x), some (.type "set"))) (by first | rfl | kernel_rfl) ?_)
  dsimp only
  rw [if_neg (by decide +kernel)]
  refine wpAny_bind (wpAny_bind (wpAny_of_eq (a := (("__contains__" : Str), Value.type "set")) (by first | rfl | kernel_rfl) ?_))
  refine wpAny_bind (wpAny_isInstance (b := true) hT sub_set_self ?_)
  refine wpAny_pure (wpAny_bind (wpAny_newObj_type (wpAny_pure h)))

theorem bs_find {x : Addr} {o : Obj} (ho : s.heap.get? x = some o) (hT : o.cls = .type "set") (hd : o.dict = none) (hc : ∀ c, o.data ≠ .cls c) {Q : Found → Shared → Prop} (h : Q (.bind (.builtin "method_descriptor.__get__") (.builtin "set.__contains__")) s) :
    wpAny (model prog w) A (find (.ref x) (.type "set") "__contains__") Q E s := by
  unfold find
  refine wpAny_bind (wpAny_of_eq PySem.F.slot_set_contains.lookup ?_)
  refine wpAny_bind (wpAny_bind (wpAny_of_eq bc_type ?_))
  refine wpAny_of_eq md_slot_get.lookup ?_
  refine wpAny_bind ?_
  refine wpAny_bind ?_
  refine wpAny_bind (wpAny_bind (wpAny_of_eq bc_type (wpAny_of_eq md_no_set ?_)))
  refine wpAny_bind (wpAny_bind (wpAny_of_eq bc_type (wpAny_of_eq md_no_del ?_)))
  refine wpAny_pure (wpAny_pure ?_)
  obtain ⟨oc, odi, oda, osl⟩ := o
  dsimp only at hT hd hc
  subst hT hd
  show wpAny _ _ (ownThenClass _ _ _ _) _ _ _
  unfold ownThenClass
  refine wpAny_bind (wpAny_bind (wpAny_bind (wpAny_loadPart ho ?_)))
  cases oda
  case cls c => exact absurd rfl (hc c)
  all_goals (
    refine wpAny_bind (wpAny_loadPart ho ?_)
    refine wpAny_pure (a := none) (wpAny_pure ?_)
    show wpAny _ _ (rule _ >>= _) _ _ _
    exact wpAny_bind (wpAny_rule (wpAny_pure h)))

theorem bs_getAttr {x : Addr} {o : Obj} {expr : Bool} (ho : s.heap.get? x = some o) (hC : o.cls = .type "set") (hd : o.dict = none) (hc : ∀ c, o.data ≠ .cls c) {Q : Value → Shared → Prop}
    (h : Q (.ref s.heap.objs.size) { s with heap := s.heap.push (bcObj x), toks := s.toks + 1 }) :
    wpAny (model prog w) A (getAttr (.ref x) "__contains__" expr) Q E s := by
  unfold getAttr getAttrBy
  have hT : ({ s with toks := s.toks + 1 } : Shared).TypeIs (.ref x) "set" := ⟨_, ho, hC⟩
  refine wpAny_bind (wpAny_mkText (wpAny_holding (wpAny_bind (wpAny_typeOf hT (wpAny_bind (wpAny_of_eq bs_lk_ga ?_))))))
  show wpAny _ _ (getAttrByItsOwn _ _ _ _ _ _) _ _ _
  unfold getAttrByItsOwn
  refine wpAny_bind (wpAny_pure (wpAny_bind (wpAny_attempt (wpAny_holding ?_))))
  have e : callGetattribute (.ref x) (.str "__contains__" s.toks) (.builtin "set.__getattribute__") expr = boundAndCalled (.builtin "set.__getattribute__") (.ref x) (.str "__contains__" s.toks) := by
    unfold callGetattribute; cases expr <;> rfl
  rw [e]
  unfold boundAndCalled
  rw [bs_slot_ga.bind]
  refine wpAny_bind (wpAny_pure (wpAny_call ?_))
  refine codeAny_call_builtin bs_slot_ga.plain bs_entry_ga (bs_slot_ga.check _ _ _ _ _ _ _ _ hT (bs_args_ga _ _) ?_)
  refine wpAny_bind (wpAny_pure (wpAny_bind (wpAny_pure (wpAny_bind (wpAny_typeOf hT (wpAny_bind (bs_find (s := { s with toks := s.toks + 1 }) ho hC hd hc ?_)))))))
  show wpAny _ _ (bindTo _ _ _ _) _ _ _
  unfold bindTo
  refine wpAny_bind (wpAny_holding ?_)
  refine wpAny_call_entry md_slot_get bc_type md_entry_get (md_run hT ⟨_, rfl, ?_⟩) (md_args_get _ _ _)
  refine wpAny_pure ?_
  show wpAny _ _ (handedOut _) _ _ _
  rw [handedOut_of rfl]; exact wpAny_pure h
end
end

section
set_option maxRecDepth 100000
open PySem PySem.Spec PySem.Calls PyProof.Rows PyProof.V Builtin Builtin.ObjectAttr
theorem bc_kind : builtinKind "set.__contains__" = some .method := by first | rfl | decide +kernel | kernel_rfl
theorem bc_sig : Manifest.signature? "set.__contains__" = some ⟨.oneArg, "set.__contains__", "__contains__", .self, [⟨"object", .posOnly, true⟩]⟩ := by first | rfl | decide +kernel | kernel_rfl
theorem bc_sub_module : isSubtype (.type "set") (.type "module") = pure false := by rw [isSubtype_type]; kernel_rfl
theorem bc_sub_type : isSubtype (.type "set") (.type "type") = pure false := by rw [isSubtype_type]; kernel_rfl
theorem bc_varargs : Manifest.varargsMethods.contains "set.__contains__" = false := by decide +kernel
theorem bc_last : Bind.lastOf "set.__contains__" = "__contains__" := by first | rfl | decide +kernel
theorem bc_last2 : Bind.lastOf "set" = "set" := by first | rfl | decide +kernel
section
variable {prog : Program} {w : World} {A : Around} {E : Value → Shared → Prop} {s : Shared}
theorem bc_args (x : Addr) (v : Value) : Bind.checkArgs "set.__contains__" ⟨.oneArg, s!"{Bind.lastOf "set"}.{("__contains__" : String)}", "__contains__", .self, [⟨"object", .posOnly, true⟩]⟩ ⟨[.ref x, v], []⟩ = pure () := by kernel_rfl
theorem bc_check {x : Addr} {o : Obj} {v : Value} {Q : Unit → Shared → Prop} (ho : s.heap.get? x = some o) (hC : o.cls = .type "set") (hc : ∀ c, o.data ≠ .cls c) (h : Q () s) :
    wpAny (model prog w) A (checkBoundCall "set.__contains__" ⟨[.ref x, v], []⟩) Q E s := by
  have hT : s.TypeIs (.ref x) "set" := ⟨_, ho, hC⟩
  unfold checkBoundCall
  simp only [bc_sig, bc_kind, bc_last, bc_varargs]
  rw [if_neg (by decide)]
  refine wpAny_bind (wpAny_isInstance (b := false) hT bc_sub_module ?_)
  rw [if_neg (by decide)]
  refine wpAny_bind (wpAny_bind (wpAny_loadPart ho ?_))
  obtain ⟨oc, odi, oda, osl⟩ := o
  dsimp only at hC hc
  subst hC
  cases oda
  case cls c => exact absurd rfl (hc c)
  all_goals (
    refine wpAny_pure ?_
    dsimp only
    rw [if_neg Bool.false_ne_true]
    refine wpAny_bind (wpAny_typeOf hT ?_)
    exact wpAny_of_eq (bc_args x v) h)

theorem bc_call {b x : Addr} {k : Str} {t : Tok} {S : Str → Bool} {n : Nat} {Q : Value → Shared → Prop} (hb : s.heap.get? b = some (bcObj x)) (hS : s.heap.SetOf (PySem.strKind prog w) x S n)
    (h : Q (.bool (S k)) { s with toks := s.toks + 1 }) : wpAny (model prog w) A (call (.ref b) [.str k t]) Q E s := by
  obtain ⟨o, es, ep, tb, ho, hX, hD, hrest⟩ := id hS
  refine wpAny_call (codeAny_of_tree ?_)
  show wpAny _ _ (callAny (.ref b) _) _ _ _
  refine wpAny_bind (wpAny_load hb ?_)
  dsimp only [bcObj]
  rw [if_pos (by decide)]
  show wpAny _ _ (checkBoundCall _ _ >>= _) _ _ _
  refine wpAny_bind (bc_check ho hX.1 (fun c e => by rw [hD] at e; cases e) ?_)
  refine wpAny_pure ⟨Code.quiet_builtin _ (by decide +kernel), codeAny_builtin entry_set_contains ?_⟩
  unfold Builtin.«frozenset.__contains__» Builtin.Frozenset.oneOther
  simp only [List.isEmpty_nil, bind_assoc]
  unfold Builtin.Frozenset.addrOf Builtin.Frozenset.withSetAsKey setContains
  refine wpAny_bind (wpAny_pure ?_)
  try dsimp only
  refine wpAny_bind (wpAny_pure ?_)
  try dsimp only
  refine wpAny_bind (wpAny_tryCatch ?_)
  refine wpAny_holding ?_
  refine wpAny_bind ((PySem.strKind prog w).pyHash (k := k) (strKind_is _ _ _ _) ?_)
  refine wpAny_bind (wpAny_setFind_of (s := { s with toks := s.toks + 1 }) (strKind_is _ _ _ _) rfl hS fun r hr => ?_)
  refine wpAny_pure ?_
  show wpAny _ _ (ret (Value.bool r.isSome)) _ _ _
  rw [hr]
  exact wpAny_pure h
end
end

section
set_option maxRecDepth 100000
open PySem PySem.Spec PySem.Calls PyProof.Rows PyProof.V

/-! ## filter(set.__contains__, list) as an iterator -/
theorem fl_slot_next : Slot "filter" "__next__" "filter.__next__" :=
  .of (owner := "filter") (n := "__next__") (by rw [typeLookup_type, builtinLookup_eq_fast]; kernel_rfl) (by decide +kernel) (by decide +kernel) (by decide +kernel)
    (by first | exact .inl (by decide +kernel) | exact .inr (by decide +kernel)) (by rw [isSubtype_type]; kernel_rfl)
theorem fl_entry_next : entryFor table "filter.__next__" = some Builtin.«filter.__next__» := entryFor_of_tree (by kernel_rfl)
theorem fl_owner : Manifest.owners.lookup (String.ofList "retlif".toList.reverse) = some Manifest.sig_filter := by kernel_rfl
theorem fl_args_next (a : Value) : argsOk "filter.__next__" ⟨[a], []⟩ := by unfold argsOk; rw [signature?_of (id := "filter.__next__") (n := "__txen__".toList) (o := "retlif".toList) (by kernel_rfl) fl_owner]; kernel_rfl
theorem fl_plain_next : plainId "filter.__next__" = true := by decide +kernel
theorem fl_slot_iter : Slot "filter" "__iter__" "filter.__iter__" :=
  .of (owner := "filter") (n := "__iter__") (by rw [typeLookup_type, builtinLookup_eq_fast]; kernel_rfl) (by decide +kernel) (by decide +kernel) (by decide +kernel)
    (by first | exact .inl (by decide +kernel) | exact .inr (by decide +kernel)) (by rw [isSubtype_type]; kernel_rfl)
theorem fl_entry_iter : entryFor table "filter.__iter__" = some Builtin.«dict_keyiterator.__iter__» :=
  entryFor_alias (id' := "dict_keyiterator.__iter__") (by rw [fastTable_eq_tree]; kernel_rfl) rfl (by decide +kernel) (by rw [fastTable_eq_tree]; kernel_rfl)
theorem fl_args_iter (a : Value) : argsOk "filter.__iter__" ⟨[a], []⟩ := by unfold argsOk; rw [signature?_of (id := "filter.__iter__") (n := "__reti__".toList) (o := "retlif".toList) (by kernel_rfl) fl_owner]; kernel_rfl

section
variable {prog : Program} {w : World} {A : Around} {E : Value → Shared → Prop} {s : Shared}
theorem ls_item {it l : Addr} {i : Nat} {items} {x : Value} {Q : Option Value → Shared → Prop} (hit : s.heap.IsListIter it l i)
    (hl : s.heap.IsList l items) (hx : items[i]? = some x)
    (hQ : ∀ h', h'.IsListIter it l (i + 1) → Heap.SameBut it s.heap h' → Q (some x) { s with heap := h' }) :
    wpAny (model prog w) A (callSpecial? (.ref it) "__next__") Q E s := by
  obtain ⟨o, ho, hc, hd⟩ := id hit
  obtain ⟨ol, hol, _, nl, hdl⟩ := hl
  refine wpAny_callSpecial?_slot (name := Str.ofString "__next__") hit.typeIs slot_listiter_next
    (wpAny_call_entry slot_listiter_next hit.typeIs entry_listiter_next ?_ (args_listiter_next _))
  show wpAny _ _ (field (.ref it) 0 >>= _) _ _ s
  refine wpAny_bind (wpAny_field ho hd (x := .ref l) rfl ?_)
  show wpAny _ _ (if (Value.ref l == Value.none) = true then _ else _) _ _ s
  rw [if_neg (show ¬ ((Value.ref l == Value.none) = true) from Bool.false_ne_true)]
  show wpAny _ _ (field (.ref it) 1 >>= _) _ _ s
  refine wpAny_bind (wpAny_field ho hd (x := .int i 0) rfl ?_)
  show wpAny _ _ (seqItems? (.ref l) >>= _) _ _ s
  refine wpAny_bind (wpAny_seqItems hol hdl ?_)
  simp only [Int.toNat_natCast, hx]
  refine wpAny_bind (wpAny_setField ho hd (by simp) (wpAny_pure ⟨x, rfl, hQ _ ?_ (Heap.SameBut.update ..)⟩))
  exact ⟨_, Heap.get?_update_self _ ho (Obj.isFreed_of_fields (Obj.data_mapFields hd _)), (Obj.cls_mapFields ..).trans hc, by
    rw [Obj.data_mapFields hd]; simp [rawInt]⟩
theorem ls_end {it l : Addr} {i : Nat} {items} {Q : Option Value → Shared → Prop} (hh : A.handled = none)
    (hit : s.heap.IsListIter it l i) (hl : s.heap.IsList l items) (hx : items[i]? = none)
    (hE : ∀ h' e, Heap.ExtBut it s.heap h' → (∃ o, h'.get? e = some o ∧ o.cls = .type "StopIteration") → E (.ref e) { s with heap := h' }) :
    wpAny (model prog w) A (callSpecial? (.ref it) "__next__") Q E s := by
  obtain ⟨o, ho, hc, hd⟩ := id hit
  obtain ⟨ol, hol, _, nl, hdl⟩ := hl
  refine wpAny_callSpecial?_slot (name := Str.ofString "__next__") hit.typeIs slot_listiter_next
    (wpAny_call_entry slot_listiter_next hit.typeIs entry_listiter_next ?_ (args_listiter_next _))
  show wpAny _ _ (field (.ref it) 0 >>= _) _ _ s
  refine wpAny_bind (wpAny_field ho hd (x := .ref l) rfl ?_)
  show wpAny _ _ (if (Value.ref l == Value.none) = true then _ else _) _ _ s
  rw [if_neg (show ¬ ((Value.ref l == Value.none) = true) from Bool.false_ne_true)]
  show wpAny _ _ (field (.ref it) 1 >>= _) _ _ s
  refine wpAny_bind (wpAny_field ho hd (x := .int i 0) rfl ?_)
  show wpAny _ _ (seqItems? (.ref l) >>= _) _ _ s
  refine wpAny_bind (wpAny_seqItems hol hdl ?_)
  simp only [Int.toNat_natCast, hx]
  refine wpAny_bind (wpAny_rule (wpAny_bind (wpAny_setField ho hd (by simp) ?_)))
  show wpAny _ _ (newExc (.type "StopIteration") [] >>= _) _ _ _
  refine wpAny_bind ?_
  simp only [newExc, newTuple]
  refine wpAny_bind (wpAny_newObj_type ?_ (by size_fits))
  refine wpAny_bind (m := firstArgMember _ _) (wpAny_of_eq (a := Value.none) (by first | rfl | (simp only [firstArgMember]; rfl)) ?_)
  refine wpAny_newObj_type ?_ (by size_fits)
  simp only [raiseNew]
  refine wpAny_bind (wpAny_handled ?_)
  first | rw [show A.in1.handled = none from hh] | rw [hh]
  refine wpAny_bind (wpAny_pure (wpAny_throw ?_))
  exact hE _ _ (((Heap.SameBut.update ..).extBut.push _).push _) ⟨_, Heap.get?_push_size _ rfl, rfl⟩
end

def flObj (b I : Addr) : Obj := { cls := .type "filter", data := .fields #[.ref b, .ref I] }
structure FlAt (prog : Program) (w : World) (f b I l x : Addr) (S : Str → Bool) (c : Nat) (items : Array Value) (j : Nat) (h : Heap) : Prop where
  fl : h.get? f = some (flObj b I)
  it : h.IsListIter I l j
  li : h.IsList l items
  bo : h.get? b = some (bcObj x)
  st : h.SetOf (PySem.strKind prog w) x S c
section
variable {prog : Program} {w : World} {A : Around}
theorem FlAt.frame {f b I l x : Addr} {S : Str → Bool} {c : Nat} {items : Array Value} {j : Nat} {h h' : Heap} (X : FlAt prog w f b I l x S c items j h)
    (hk : ∀ a ∈ [f, b, I, l, x], ∀ o, h.get? a = some o → h'.get? a = some o) : FlAt prog w f b I l x S c items j h' where
  fl := hk f (by simp) _ X.fl
  it := X.it.at fun o e => hk I (by simp) o e
  li := X.li.at fun o e => hk l (by simp) o e
  bo := hk b (by simp) _ X.bo
  st := by
    obtain ⟨o, es, ep, t, ho, rest⟩ := X.st
    exact ⟨o, es, ep, t, hk x (by simp) _ ho, rest⟩
theorem FlAt.step {f b I l x : Addr} {S : Str → Bool} {c : Nat} {items : Array Value} {j : Nat} {h h' : Heap} (X : FlAt prog w f b I l x S c items j h)
    (hf : f ≠ I) (hb : b ≠ I) (hl : l ≠ I) (hx : x ≠ I) (hs : Heap.SameBut I h h') (hi : h'.IsListIter I l (j + 1)) : FlAt prog w f b I l x S c items (j + 1) h' where
  fl := hs.extBut _ _ hf X.fl
  it := hi
  li := X.li.extBut hs.extBut hl
  bo := hs.extBut _ _ hb X.bo
  st := by
    obtain ⟨o, es, ep, t, ho, rest⟩ := X.st
    exact ⟨o, es, ep, t, hs.extBut _ _ hx ho, rest⟩

theorem fl_loop {f b I l x : Addr} {S : Str → Bool} {c : Nat} {items : Array Value} {ys : List Str} {R : Result → Shared → Prop} (hh : A.handled = none) (hy : StrsAre items.toList ys)
    (hf : f ≠ I) (hb : b ≠ I) (hl : l ≠ I) (hx : x ≠ I) : ∀ (k j : Nat) (s : Shared), ys.length - j = k → j ≤ ys.length → FlAt prog w f b I l x S c items j s.heap →
      (∀ j' y t s', j' < ys.length → ((ys.take j').filter S).length = ((ys.take j).filter S).length → ys[j']? = some y → S y = true → FlAt prog w f b I l x S c items (j' + 1) s'.heap → Moved [I] (fun a b => b = a) s s' → R (.ok (.ret (.str y t))) s') →
      (∀ e s', (ys.filter S).length = ((ys.take j).filter S).length → s'.TypeIs e "StopIteration" → Moved [I] (fun a b => b = a) s s' → R (.error e) s') →
      wpAny (model prog w) A.in1 (Builtin.«filter.__next__» ⟨[.ref f], []⟩)
        (fun fin s' => match fin with | .done f => R (.ok f) s' | .again c' => c'.quiet = true ∧ codeAny (model prog w) A c' R s') (fun e s' => R (.error e) s') s := by
  intro k
  induction k with
  | zero =>
    intro j s hk hj hst _ hE
    have hj' : j = ys.length := by omega
    subst hj'
    show wpAny _ A.in1 (field (.ref f) 0 >>= _) _ _ s
    refine wpAny_bind (wpAny_field hst.fl rfl (x := .ref b) rfl ?_)
    refine wpAny_bind (wpAny_field hst.fl rfl (x := .ref I) rfl ?_)
    have hnone : items[ys.length]? = none := by rw [← hy.length, Array.length_toList]; exact Array.getElem?_eq_none (Nat.le_refl _)
    refine wpAny_bind (ls_end (by exact hh) hst.it hst.li hnone fun h' e hs he => ?_)
    exact hE _ _ (by rw [List.take_length]) he ⟨fun b o hb e => hs b o (fun h => hb (by simp [h])) e, rfl, rfl, rfl, Nat.le_refl _⟩
  | succ k ih =>
    intro j s hk hj hst hR hE
    have hlt : j < ys.length := by omega
    obtain ⟨y, hyj⟩ : ∃ y, ys[j]? = some y := ⟨_, List.getElem?_eq_getElem hlt⟩
    obtain ⟨t, hv⟩ : ∃ t, items[j]? = some (.str y t) := by
      have hlt' : j < items.toList.length := by rw [hy.length]; exact hlt
      obtain ⟨y', hy', t, e⟩ := hy.get (List.getElem?_eq_getElem hlt')
      rw [hyj] at hy'; cases hy'
      exact ⟨t, by rw [← e, ← Array.getElem?_toList]; exact List.getElem?_eq_getElem hlt'⟩
    show wpAny _ A.in1 (field (.ref f) 0 >>= _) _ _ s
    refine wpAny_bind (wpAny_field hst.fl rfl (x := .ref b) rfl ?_)
    refine wpAny_bind (wpAny_field hst.fl rfl (x := .ref I) rfl ?_)
    refine wpAny_bind (ls_item hst.it hst.li hv fun h' hit hs => ?_)
    have hst' := hst.step hf hb hl hx hs hit
    dsimp only
    refine wpAny_bind (wpAny_holding ?_)
    rw [if_neg (show ¬ ((Value.ref b == Value.none || Value.ref b == Value.type "bool") = true) from Bool.false_ne_true)]
    refine wpAny_bind (bc_call (s := { s with heap := h' }) hst'.bo hst'.st ?_)
    refine wpAny_holding (wpAny_truthy_bool ?_)
    have hmv : Moved [I] (fun a b => b = a) s { s with heap := h', toks := s.toks + 1 } := ⟨fun b o hb e => hs.extBut b o (fun h => hb (by simp [h])) e, rfl, rfl, rfl, Nat.le_succ _⟩
    cases hS : S y with
    | true =>
      rw [if_pos rfl]
      exact wpAny_pure (hR j y t _ hlt rfl hyj hS hst' hmv)
    | false =>
      rw [if_neg Bool.false_ne_true]
      have hsame : ((ys.take (j + 1)).filter S).length = ((ys.take j).filter S).length := by rw [take_snoc hyj, List.filter_append]; simp [hS]
      refine wpAny_pure ⟨plainId_quiet fl_plain_next _, codeAny_builtin fl_entry_next ?_⟩
      rw [Around.under_plainId fl_plain_next _]
      refine ih (j + 1) _ (by omega) hlt hst' (fun j' y' t' s' h1 h2 h3 h4 h5 h6 => ?_) (fun e s' h1 h2 h3 => ?_)
      · exact hR j' y' t' s' h1 (h2.trans hsame) h3 h4 h5 (Moved.trans (fun _ _ _ h1 h2 => h2.trans h1) hmv h6)
      · exact hE e s' (h1.trans hsame) h2 (Moved.trans (fun _ _ _ h1 h2 => h2.trans h1) hmv h3)

theorem fl_call {f b I l x : Addr} {S : Str → Bool} {c : Nat} {items : Array Value} {ys : List Str} {R : Result → Shared → Prop} {s : Shared} (hh : A.handled = none) (hy : StrsAre items.toList ys)
    (hf : f ≠ I) (hb : b ≠ I) (hl : l ≠ I) (hx : x ≠ I) (j : Nat) (hj : j ≤ ys.length) (hst : FlAt prog w f b I l x S c items j s.heap)
    (hR : ∀ j' y t s', j' < ys.length → ((ys.take j').filter S).length = ((ys.take j).filter S).length → ys[j']? = some y → S y = true → FlAt prog w f b I l x S c items (j' + 1) s'.heap → Moved [I] (fun a b => b = a) s s' → R (.ok (.ret (.str y t))) s')
    (hE : ∀ e s', (ys.filter S).length = ((ys.take j).filter S).length → s'.TypeIs e "StopIteration" → Moved [I] (fun a b => b = a) s s' → R (.error e) s') :
    codeAny (model prog w) A (.call (.builtin "filter.__next__") ⟨[.ref f], []⟩) R s :=
  codeAny_call_builtin fl_slot_next.plain fl_entry_next (fl_slot_next.check _ _ _ _ _ _ _ _ ⟨_, hst.fl, rfl⟩ (fl_args_next _) (fl_loop hh hy hf hb hl hx (ys.length - j) j s rfl hj hst hR hE))

theorem filter_at {S : Str → Bool} {ys : List Str} {j : Nat} {y : Str} (hy : ys[j]? = some y) (hS : S y = true) : (ys.filter S)[((ys.take j).filter S).length]? = some y := by
  have hlt : j < ys.length := by
    rcases Nat.lt_or_ge j ys.length with h | h
    · exact h
    · rw [List.getElem?_eq_none h] at hy; cases hy
  have e : ys.filter S = (ys.take j).filter S ++ (y :: (ys.drop (j + 1)).filter S) := by
    conv => lhs; rw [← List.take_append_drop j ys, List.filter_append, List.drop_eq_getElem_cons hlt]
    rw [List.getElem?_eq_getElem hlt] at hy
    cases hy
    rw [List.filter_cons_of_pos hS]
  rw [e, List.getElem?_append_right (Nat.le_refl _)]
  simp

def FlSt (prog : Program) (w : World) (f b I l x : Addr) (S : Str → Bool) (c : Nat) (items : Array Value) (ys : List Str) (i : Nat) (s : Shared) : Prop :=
  ∃ j, j ≤ ys.length ∧ ((ys.take j).filter S).length = i ∧ FlAt prog w f b I l x S c items j s.heap

theorem fl_walks {f b I l x : Addr} {S : Str → Bool} {c : Nat} {items : Array Value} {ys : List Str} (hh : A.handled = none) (hy : StrsAre items.toList ys)
    (hf : f ≠ I) (hb : b ≠ I) (hl : l ≠ I) (hx : x ≠ I) :
    WalksS prog w A f [f, b, I, l, x] [I] (fun a b => b = a) (ys.filter S).length (fun i v => ∃ y t, (ys.filter S)[i]? = some y ∧ v = .str y t) (FlSt prog w f b I l x S c items ys) where
  sub := by intro b hb; simp at hb; simp [hb]
  grefl := fun _ => rfl
  gtrans := fun _ _ _ h1 h2 => h2.trans h1
  frame := fun i s h' tk ⟨j, h1, h2, h3⟩ _ hk => ⟨j, h1, h2, h3.frame hk⟩
  item := fun i s Q E hi ⟨j, h1, h2, h3⟩ hQ => by
    have hT : s.TypeIs (.ref f) "filter" := ⟨_, h3.fl, rfl⟩
    unfold pyNext
    refine wpAny_bind (wpAny_attempt (wpAny_callSpecial?_slot (name := Str.ofString "__next__") hT fl_slot_next (wpAny_call ?_)))
    refine fl_call hh hy hf hb hl hx j h1 h3 (fun j' y t s' g1 g2 g3 g4 g5 g6 => ?_) (fun e s' g1 g2 g3 => absurd hi (by omega))
    have hat := filter_at g3 g4
    rw [g2, h2] at hat
    refine wpAny_pure (hQ _ _ ⟨y, t, hat, rfl⟩ ⟨j' + 1, g1, ?_, g5⟩ g6)
    rw [take_snoc g3, List.filter_append, List.length_append, g2, h2]; simp [g4]
  done := fun s Q E ⟨j, h1, h2, h3⟩ hQ => by
    have hT : s.TypeIs (.ref f) "filter" := ⟨_, h3.fl, rfl⟩
    unfold pyNext
    refine wpAny_bind (wpAny_attempt (wpAny_callSpecial?_slot (name := Str.ofString "__next__") hT fl_slot_next (wpAny_call ?_)))
    refine fl_call hh hy hf hb hl hx j h1 h3 (fun j' y t s' g1 g2 g3 g4 g5 g6 => ?_) (fun e s' g1 g2 g3 => ?_)
    · have hat := filter_at g3 g4
      rw [g2, h2, List.getElem?_eq_none (Nat.le_refl _)] at hat
      cases hat
    · refine wpAny_bind (wpAny_isInstance (T := "StopIteration") (b := true) g2 isSubtype_stop ?_)
      exact wpAny_pure (hQ _ g3)
  self := fun i s Q E ⟨j, h1, h2, h3⟩ hQ => by
    have hT : s.TypeIs (.ref f) "filter" := ⟨_, h3.fl, rfl⟩
    refine wpAny_pyIter_slot hT fl_slot_iter (wpAny_call_entry fl_slot_iter hT fl_entry_iter ?_ (fl_args_iter _))
    show wpAny _ _ (ret (.ref f)) _ _ s
    exact wpAny_pure ⟨_, rfl, "filter", _, hT, fl_slot_next.lookup, hQ⟩
end
end

section
set_option maxRecDepth 100000
open PySem PySem.Spec PySem.Calls PyProof.Rows PyProof.V

/-! ## making a filter; a list of an iterator without a length -/
theorem fl_mro : mroOf (.type "filter") = pure [.type "filter", .type "object"] := by rw [mroOf_type]; kernel_rfl
theorem fl_lookup_new : typeLookup (.type "filter") "__new__" = pure (some (.builtin "filter.__new__")) := by rw [typeLookup_type, builtinLookup_eq_fast]; kernel_rfl
theorem fl_slot_init : Slot "filter" "__init__" "object.__init__" :=
  .of (owner := "object") (n := "__init__") (by rw [typeLookup_type, builtinLookup_eq_fast]; kernel_rfl) (by decide +kernel) (by decide +kernel) (by decide +kernel)
    (by first | exact .inl (by decide +kernel) | exact .inr (by decide +kernel)) (by rw [isSubtype_type]; kernel_rfl)
theorem fl_called : TypeCalled "filter" "filter.__new__" "object.__init__" :=
  ⟨by decide +kernel, by decide +kernel, ⟨_, _, fl_mro⟩, madeBy_type fl_mro fl_lookup_new (by decide +kernel), by decide +kernel, by rw [isSubtype_type]; kernel_rfl, fl_slot_init⟩
theorem fl_typeCall (a b : Value) : checkTypeCall "filter" ⟨[a, b], []⟩ = pure () := by kernel_rfl
theorem fl_newCall (a b : Value) : checkBuiltinCall "filter.__new__" ⟨[.type "filter", a, b], []⟩ = pure () := by kernel_rfl
theorem fl_entry_new : entryFor table "filter.__new__" = some Builtin.«filter.__new__» := entryFor_of_tree (by kernel_rfl)
theorem fl_sub : isSubtype (.type "filter") (.type "filter") = pure true := by rw [isSubtype_type]; kernel_rfl
theorem fl_no_len : typeLookup (.type "filter") "__len__" = pure none := by rw [typeLookup_type, builtinLookup_eq_fast]; kernel_rfl
theorem fl_no_hint : typeLookup (.type "filter") "__length_hint__" = pure none := by rw [typeLookup_type, builtinLookup_eq_fast]; kernel_rfl

def flHeap (h : Heap) (b l : Addr) : Heap := (h.push { cls := .type "list_iterator", data := .fields #[.ref l, .int 0 0] }).push (flObj b h.objs.size)
theorem fl_meets_new (b l : Addr) (xs : Array Value) :
    Meets (Builtin.«filter.__new__» ⟨[.type "filter", .ref b, .ref l], []⟩) (fun _ R s => s.heap.IsList l xs ∧
      R (.ok (.ret (.ref (s.heap.push { cls := .type "list_iterator", data := .fields #[.ref l, .int 0 0] }).objs.size))) { s with heap := flHeap s.heap b l }) :=
  .of_wp fun prog w A R s h => by
    obtain ⟨hp, g, d, tk, os⟩ := s; obtain ⟨hl, h⟩ := h
    have hsub := fl_sub
    have hL1 : Heap.IsList (Shared.heap ⟨hp, g, d, tk, os⟩) l xs := hl
    wp_walk using wpAny_pyIter_list hL1
    exact ⟨_, rfl, h⟩

section
variable {prog : Program} {w : World} {A : Around} {E : Value → Shared → Prop} {s : Shared}
theorem fl_new {b l : Addr} {xs : Array Value} {Q : Value → Shared → Prop} (hl : s.heap.IsList l xs)
    (h : Q (.ref (s.heap.objs.size + 1)) { s with heap := flHeap s.heap b l }) :
    wpAny (model prog w) A (call (.type "filter") [.ref b, .ref l]) Q E s := by
  refine callType_new fl_called (by decide) (fl_typeCall _ _) (fl_newCall _ _) (fun obj => PySem.F.args_object_init_3 obj _ _) fl_entry_new
    (fl_meets_new b l xs) ⟨hl, ?_⟩
  have hz : (s.heap.push { cls := .type "list_iterator", data := .fields #[.ref l, .int 0 0] }).objs.size = s.heap.objs.size + 1 := Heap.size_push ..
  show _ ∧ _
  rw [hz]
  refine ⟨⟨flObj b s.heap.objs.size, ?_, rfl⟩, h⟩
  unfold flHeap
  rw [← hz]
  exact Heap.get?_push_size _ rfl
end

structure NoLen (T : String) : Prop where
  notList : (Value.type T == Value.type "list") = false
  notTuple : (Value.type T == Value.type "tuple") = false
  len : typeLookup (.type T) "__len__" = pure none
  hint : typeLookup (.type T) "__length_hint__" = pure none
theorem fl_noLen : NoLen "filter" := ⟨by decide, by decide, fl_no_len, fl_no_hint⟩

section
variable {prog : Program} {w : World} {A : Around} {s : Shared} {R : Result → Shared → Prop} {T : String}
variable {I : Addr} {fp wr : List Addr} {G : Array GenState → Array GenState → Prop} {n : Nat} {P : Nat → Value → Prop} {St : Nat → Shared → Prop}

theorem ext_any (Y : NoLen T) (W : WalksS prog w A.in1 I fp wr G n P St) (hT : ∀ i s, St i s → s.TypeIs (.ref I) T) (S : Addr) (res : Value) (acc₀ : Array Value) (c₀ : Nat) (hst : St 0 s) (hSf : S ∉ fp) (hI : I ∈ fp)
    (hS : s.heap.get? S = some { cls := .type "list", data := .seq #[] c₀ })
    (hR : ∀ s' acc' c', Moved (S :: wr) G s s' → s'.heap.get? S = some { cls := .type "list", dict := none, data := .seq acc' c', slots := #[] } → ItemsOf P acc' n → R (.ok (.ret res)) s') (hn : n ≤ sizeLine := by size_fits) :
    wpAny (model prog w) A.in1 (Builtin.List.listExtendWith (.ref S) (.ref I) res)
      (fun fin s' => match fin with | .done f => R (.ok f) s' | .again c' => c'.quiet = true ∧ codeAny (model prog w) A c' R s') (fun e s' => R (.error e) s') s := by
  have hSI : S ≠ I := fun e => hSf (e ▸ hI)
  unfold Builtin.List.listExtendWith
  refine wpAny_bind (wpAny_typeOf (hT 0 _ hst) ?_)
  have h1 : Builtin.List.listSameRef (.ref S) (.ref I) = false := by simp [Builtin.List.listSameRef, hSI]
  have h2 := Y.notList
  have h3 := Y.notTuple
  simp only [h1, h2, h3, Bool.or_false, Bool.false_eq_true, if_false]
  refine wpAny_bind (W.self 0 _ _ _ hst ?_)
  refine wpAny_bind (wpAny_holding ?_)
  unfold Builtin.List.listLengthHint
  refine wpAny_bind (wpAny_specialOf (hT 0 _ hst) Y.len ?_)
  show wpAny _ A.in1 (specialOf (Value.ref I) (Str.ofString "__length_hint__") >>= _) _ _ _
  refine wpAny_bind (wpAny_specialOf (hT 0 _ hst) Y.hint ?_)
  refine wpAny_pure ?_
  show wpAny _ A.in1 (rule "list.extend.makes-room" >>= fun _ => Builtin.List.listTouch (.ref S) >>= fun _ =>
    again (.builtin "list.extend.loop" ⟨[.ref S, .ref I, res], []⟩)) _ _ _
  refine wpAny_bind (wpAny_rule ?_)
  refine wpAny_bind ?_
  show wpAny _ A.in1 (updateSeq S (·.push .none) >>= fun _ => updateSeq S (·.pop)) _ _ _
  refine wpAny_bind (wpAny_updateSeq hS rfl ?_)
  have hS₂ := Heap.get?_update_self (Obj.mapSeq (·.push Value.none)) hS rfl
  refine wpAny_updateSeq (hz := by seq_fits) hS₂ rfl ?_
  have hS₃ := Heap.get?_update_self (Obj.mapSeq (·.pop)) hS₂ rfl
  have oth : ∀ b o, b ≠ S → s.heap.get? b = some o → ((s.heap.update S (Obj.mapSeq (·.push Value.none))).update S (Obj.mapSeq (·.pop))).get? b = some o :=
    fun b o hb e => (Heap.get?_update_other _ _ (Ne.symm hb)).trans ((Heap.get?_update_other _ _ (Ne.symm hb)).trans e)
  refine wpAny_pure ⟨plainId_quiet PySem.F.plain_extend_loop _, codeAny_extend_loopS W hn _ hSf _ n 0 _ _ _ rfl (Nat.zero_le _)
    (W.frame 0 s _ s.toks hst (Nat.le_refl _) fun b hb o e => oth b o (fun h => hSf (h ▸ hb)) e) hS₃ (ItemsOf.nil P) fun s' acc' c' hm hS' hacc => ?_⟩
  exact hR s' acc' c' (Moved.trans W.gtrans ((Moved.refl W.grefl).then_heap (Nat.le_refl _) fun b o hb e => oth b o (fun h => hb (h ▸ List.mem_cons_self)) e) hm) hS' hacc

theorem init_any (Y : NoLen T) (W : WalksS prog w A.in1 I fp wr G n P St) (hT : ∀ i s, St i s → s.TypeIs (.ref I) T) (S : Addr) (hst : St 0 s) (hSf : S ∉ fp) (hI : I ∈ fp)
    (hS : s.heap.get? S = some { cls := .type "list", data := .seq #[] })
    (hR : ∀ s' acc' c', Moved (S :: wr) G s s' → s'.heap.get? S = some { cls := .type "list", dict := none, data := .seq acc' c', slots := #[] } → ItemsOf P acc' n → R (.ok (.ret .none)) s') (hn : n ≤ sizeLine := by size_fits) :
    wpAny (model prog w) A.in1 (Builtin.«list.__init__» ⟨[.ref S, .ref I], []⟩)
      (fun fin s' => match fin with | .done f => R (.ok f) s' | .again c' => c'.quiet = true ∧ codeAny (model prog w) A c' R s') (fun e s' => R (.error e) s') s := by
  show wpAny _ A.in1 (do let old ← Builtin.List.listItems (.ref S); Builtin.List.listUpdate (.ref S) (fun _ => #[]); letGo old.toList.reverse; Builtin.List.listExtendWith (.ref S) (.ref I) .none) _ _ s
  refine wpAny_bind ?_
  unfold Builtin.List.listItems
  refine wpAny_bind (wpAny_seqItems hS rfl (wpAny_pure ?_))
  show wpAny _ A.in1 (updateSeq S (fun _ => #[]) >>= fun _ => letGo (#[] : Array Value).toList.reverse >>= fun _ => Builtin.List.listExtendWith (.ref S) (.ref I) .none) _ _ s
  refine wpAny_bind (wpAny_updateSeq hS rfl ?_)
  have hS₂ := Heap.get?_update_self (Obj.mapSeq (fun _ => (#[] : Array Value))) hS rfl
  have oth : ∀ b o, b ≠ S → s.heap.get? b = some o → (s.heap.update S (Obj.mapSeq (fun _ => (#[] : Array Value)))).get? b = some o :=
    fun b o hb e => (Heap.get?_update_other _ _ (Ne.symm hb)).trans e
  refine wpAny_bind (wpAny_letGo ?_)
  refine ext_any (hn := hn) Y W hT S .none #[] _ (W.frame 0 s _ s.toks hst (Nat.le_refl _) fun b hb o e => oth b o (fun h => hSf (h ▸ hb)) e) hSf hI hS₂ fun s' acc' c' hm hS' hacc => ?_
  exact hR s' acc' c' (Moved.trans W.gtrans ((Moved.refl W.grefl).then_heap (Nat.le_refl _) fun b o hb e => oth b o (fun h => hb (h ▸ List.mem_cons_self)) e) hm) hS' hacc
end

section
variable {prog : Program} {w : World} {A : Around} {E : Value → Shared → Prop} {s : Shared} {T : String}
variable {I : Addr} {fp wr : List Addr} {G : Array GenState → Array GenState → Prop} {n : Nat} {P : Nat → Value → Prop} {St : Nat → Shared → Prop}
theorem list_any {Q : Value → Shared → Prop} (Y : NoLen T) (W : WalksS prog w A.in1.in1 I fp wr G n P St) (hT : ∀ i s, St i s → s.TypeIs (.ref I) T) (hst : St 0 s) (hfp : ∀ b ∈ fp, b < s.heap.objs.size) (hI : I ∈ fp)
    (hQ : ∀ s' acc' c', Moved (s.heap.objs.size :: wr) G { s with heap := s.heap.push { cls := .type "list", data := .seq #[] } } s' →
      s'.heap.get? s.heap.objs.size = some { cls := .type "list", dict := none, data := .seq acc' c', slots := #[] } → ItemsOf P acc' n → Q (.ref s.heap.objs.size) s') (hn : n ≤ sizeLine := by size_fits) :
    wpAny (model prog w) A (call (.type "list") [.ref I]) Q E s := by
  have hSf : s.heap.objs.size ∉ fp := fun hm => Nat.lt_irrefl _ (hfp _ hm)
  refine callType_codes (Q₁ := fun obj s₁ => obj = .ref s.heap.objs.size ∧ s₁ = { s with heap := s.heap.push { cls := .type "list", data := .seq #[] } }) PySem.F.called_list (PySem.F.typeCall_list_1 _) PySem.F.entry_list_init
    (code_list_new _ ⟨rfl, rfl⟩) fun obj s₁ h₁ => ?_
  obtain ⟨rfl, rfl⟩ := h₁
  have hS : (s.heap.push { cls := .type "list", data := .seq #[] }).get? s.heap.objs.size = some { cls := .type "list", data := .seq #[] } := Heap.get?_push_size _ rfl
  refine ⟨⟨_, hS, rfl⟩, PySem.F.args_list_init_2 _ _, init_any (hn := hn) Y W hT _ (W.frame 0 s _ s.toks hst (Nat.le_refl _) fun b _ o e => Heap.get?_push_of_some _ e) hSf hI hS fun s' acc' c' hm hS' hacc => ?_⟩
  exact ⟨rfl, hQ s' acc' c' hm hS' hacc⟩
end
end

section
set_option maxRecDepth 100000
open PySem PySem.Spec PySem.Calls PyProof.Rows PyProof.V
section
variable {prog : Program} {w : World} {A : Around} {E : Value → Shared → Prop} {s : Shared} {h₀ : Heap} {L : Addr} {m : Str → Option Value} {news : List (Addr × Obj)}
theorem news_push {o : Obj} (hf : o.isFreed = false) (F : Fr h₀ L s.heap m) (N : News h₀ L s.heap news) : Fr h₀ L (s.heap.push o) m ∧ News h₀ L (s.heap.push o) ((s.heap.objs.size, o) :: news) ∧ ∀ p ∈ news, p.1 < s.heap.objs.size :=
  ⟨F.push _, News.push (hfree := hf) F N _, fun p hp => Heap.lt_size (N p hp).1⟩

theorem bc_N {x : Addr} {o : Obj} {S : Str → Bool} {n : Nat} {expr : Bool} {Q : Value → Shared → Prop} (F : Fr h₀ L s.heap m) (N : News h₀ L s.heap news) (hm : (x, o) ∈ news) (hS : o.SetObjOf (PySem.strKind prog w) S n)
    (h : ∀ b h', Fr h₀ L h' m → News h₀ L h' ((b, bcObj x) :: news) → (∀ p ∈ news, p.1 < b) → Q (.ref b) { s with heap := h', toks := s.toks + 1 }) :
    wpAny (model prog w) A (getAttr (.ref x) "__contains__" expr) Q E s := by
  obtain ⟨hX, es, ep, t, hd, _⟩ := hS
  obtain ⟨F', N', l⟩ := news_push (o := bcObj x) rfl F N
  exact bs_getAttr (N _ hm).1 hX.1 hX.2.1 (fun c e => by rw [hd] at e; cases e) (h _ _ F' N' l)

def itObj (l : Addr) : Obj := { cls := .type "list_iterator", data := .fields #[.ref l, .int 0 0] }
theorem fl_N {b l : Addr} {vs : List Value} {nn : Nat} {Q : Value → Shared → Prop} (F : Fr h₀ L s.heap m) (N : News h₀ L s.heap news) (hm : (l, listOf vs.toArray nn) ∈ news)
    (h : ∀ f I h', Fr h₀ L h' m → News h₀ L h' ((f, flObj b I) :: (I, itObj l) :: news) → (∀ p ∈ news, p.1 < I) → I < f → Q (.ref f) { s with heap := h' }) :
    wpAny (model prog w) A (call (.type "filter") [.ref b, .ref l]) Q E s := by
  obtain ⟨F₁, N₁, l₁⟩ := news_push (o := itObj l) rfl F N
  have hz : (s.heap.push (itObj l)).objs.size = s.heap.objs.size + 1 := Heap.size_push ..
  obtain ⟨F₂, N₂, l₂⟩ := news_push (s := { s with heap := s.heap.push (itObj l) }) (o := flObj b s.heap.objs.size) rfl F₁ N₁
  dsimp only at N₂
  rw [hz] at N₂
  exact fl_new (xs := vs.toArray) ⟨_, (N _ hm).1, rfl, nn, rfl⟩ (h _ _ _ F₂ N₂ l₁ (Nat.lt_succ_self _))

theorem all2_idx {α β : Type} {P : α → β → Prop} : ∀ {l : List α} {r : List β}, l.length = r.length → (∀ (i : Nat) (a : α), l[i]? = some a → ∃ b, r[i]? = some b ∧ P a b) → All2 P l r
  | [], [], _, _ => .nil
  | [], _ :: _, h, _ => by simp at h
  | _ :: _, [], h, _ => by simp at h
  | a :: l, b :: r, h, g => by
    obtain ⟨b', e, p⟩ := g 0 a rfl
    cases e
    exact .cons p (all2_idx (by simpa using h) fun i a' e => g (i + 1) a' (by simpa using e))

theorem lf_N {f I b l x : Addr} {o : Obj} {S : Str → Bool} {c nn : Nat} {vs : List Value} {ys : List Str} {rest : List (Addr × Obj)} {Q : Value → Shared → Prop} (hh : A.handled = none) (F : Fr h₀ L s.heap m)
    (N : News h₀ L s.heap ((f, flObj b I) :: (I, itObj l) :: (b, bcObj x) :: (x, o) :: rest)) (hm : (l, listOf vs.toArray nn) ∈ rest) (hS : o.SetObjOf (PySem.strKind prog w) S c) (hc : c ≤ 63)
    (hy : StrsAre vs ys) (h63 : ys.length ≤ 63) (hxr : ∀ p ∈ rest, p.1 < x) (hxb : x < b) (hbI : b < I) (hIf : I < f)
    (h : ∀ q h' tk cc vs', Fr h₀ L h' m → News h₀ L h' ((q, listOf vs'.toArray cc) :: rest) → (∀ p ∈ rest, p.1 < q) → StrsAre vs' (ys.filter S) → Q (.ref q) { s with heap := h', toks := tk }) :
    wpAny (model prog w) A (call (.type "list") [.ref f]) Q E s := by
  have hlx : l < x := hxr _ hm
  have n1 : f ≠ I := Nat.ne_of_gt hIf
  have n2 : b ≠ I := Nat.ne_of_lt hbI
  have n3 : x ≠ I := Nat.ne_of_lt (Nat.lt_trans hxb hbI)
  have n4 : l ≠ I := Nat.ne_of_lt (Nat.lt_trans hlx (Nat.lt_trans hxb hbI))
  have g1 := N _ (.head _)
  have g2 := N _ (.tail _ (.head _))
  have g3 := N _ (.tail _ (.tail _ (.head _)))
  have g4 := N _ (.tail _ (.tail _ (.tail _ (.head _))))
  have g5 := N _ (.tail _ (.tail _ (.tail _ (.tail _ hm))))
  have hst : FlSt prog w f b I l x S c vs.toArray ys 0 s := ⟨0, Nat.zero_le _, rfl, g1.1, ⟨_, g2.1, rfl, rfl⟩, ⟨_, g5.1, rfl, nn, rfl⟩, g3.1, hS.setOf g4.1 (by unfold scanBound; omega)⟩
  have hk : ∀ b' o', b' ≠ I → s.heap.get? b' = some o' → (s.heap.push { cls := .type "list", data := .seq #[] }).get? b' = some o' := fun b' o' _ e => Heap.get?_push_of_some _ e
  refine list_any (St := FlSt prog w f b I l x S c vs.toArray ys) fl_noLen (fl_walks (A := A.in1.in1) (items := vs.toArray) (by simp [hh]) hy n1 n2 n4 n3) (fun i s' ⟨j, _, _, q⟩ => ⟨_, q.fl, rfl⟩) hst ?_ (by simp) (fun s' acc' c' hmv hS' hacc => ?_) ?_
  · intro a ha
    simp only [List.mem_cons, List.not_mem_nil, or_false] at ha
    rcases ha with rfl | rfl | rfl | rfl | rfl
    · exact Heap.lt_size g1.1
    · exact Heap.lt_size g3.1
    · exact Heap.lt_size g2.1
    · exact Heap.lt_size g5.1
    · exact Heap.lt_size g4.1
  · have hkeep : ∀ b' o', b' ≠ I → s.heap.get? b' = some o' → s'.heap.get? b' = some o' := fun b' o' hb e =>
      hmv.heap b' o' (by simp only [List.mem_cons, List.not_mem_nil, or_false, not_or]; exact ⟨Nat.ne_of_lt (Heap.lt_size e), hb⟩) (hk b' o' hb e)
    obtain ⟨accl⟩ := acc'
    have hlenL : L < s.heap.objs.size := by obtain ⟨oL, _, _, hL, _⟩ := F.ns; exact Heap.lt_size hL
    have eq : s' = { s with heap := s'.heap, toks := s'.toks } := (Moved.eq_with hmv : _)
    rw [eq]
    refine h _ _ _ c' accl ⟨F.ns.at' fun o' e => hkeep L o' (fun e' => g2.2.1 e'.symm) e, fun b' o' e => hkeep b' o' (fun e' => ?_) (F.keep b' o' e), F.above⟩ (fun p hp => ?_) (fun p hp => Heap.lt_size (N p (.tail _ (.tail _ (.tail _ (.tail _ hp))))).1) ?_
    · rw [e', g2.2.2] at e; cases e
    · rcases List.mem_cons.mp hp with rfl | hp
      · refine ⟨hS', Nat.ne_of_gt hlenL, ?_⟩
        cases hq : h₀.get? s.heap.objs.size with
        | none => rfl
        | some o' => exact absurd (Heap.lt_size (F.keep _ _ hq)) (Nat.lt_irrefl _)
      · have gp := N p (.tail _ (.tail _ (.tail _ (.tail _ hp))))
        exact ⟨hkeep _ _ (Nat.ne_of_lt (Nat.lt_trans (hxr p hp) (Nat.lt_trans hxb hbI))) gp.1, gp.2.1, gp.2.2⟩
    · refine all2_idx (by simpa using hacc.1) fun i a hi => ?_
      obtain ⟨y, t, hy', e⟩ := hacc.2 i a (by simpa using hi)
      exact ⟨y, hy', t, e⟩
  · rw [sizeLine_eq]
    have := List.length_filter_le S ys
    omega
end
end

section
set_option maxRecDepth 100000
open PySem PySem.Spec PySem.Calls PyProof.Rows PyProof.V
local macro_rules | `(tactic| k_all) => `(tactic| first | exact List.forall_mem_nil _ | (refine' List.forall_mem_cons.mpr ⟨?a, ?b⟩; (case a => k_ne); (case b => k_all)) | assumption | ((repeat (rename _ ∧ _ => hX; obtain ⟨hX1, hX2⟩ := hX)); first | exact allLt_ne (by assumption) (by omega) | exact raw_ne (by assumption) (by omega) | exact allGe_ne (by assumption) (by omega) | (refine forall_app ?a ?b; (case a => k_all); (case b => k_all)) | (rename AllLt _ _ => hY; clear hY; k_all) | (rename AllGe _ _ => hY; clear hY; k_all)))
local macro_rules | `(tactic| k_mem) => `(tactic| first | assumption | exact List.mem_cons_self | (refine' List.mem_cons_of_mem _ ?_; k_mem))
local macro_rules | `(tactic| walk_at "pad0") => `(tactic| fail)
local macro_rules | `(tactic| walk_at "pad1") => `(tactic| fail)
local macro_rules | `(tactic| walk_at "pad2") => `(tactic| fail)
local macro_rules | `(tactic| walk_at "binaryOp Add ref ref") => `(tactic| refine stop_here ?_)
local macro_rules | `(tactic| walk_at "call type:set") => `(tactic| refine stop_here ?_)
local macro_rules | `(tactic| walk_at "call type:filter") => `(tactic| refine stop_here ?_)
local macro_rules | `(tactic| walk_at "call type:list") => `(tactic| refine stop_here ?_)
local macro_rules | `(tactic| walk_at "getAttr ref") => `(tactic| ((with_reducible show wpAny _ _ (getAttr _ (Str.ofString "__contains__") _) _ _ _); refine stop_here ?_))

def mergedDl (d₁ : Value) : Value → Value
  | .none => d₁
  | v => v
set_option maxHeartbeats 1000000 in
theorem merge_call {p : Program} {loose : List Str} {mean : ExcName → Option Value} {mg mb : Str → Option Value} {w : World}
   (dp un : Nat) (gd : Option (List Code)) (cn : Str) (cs : Scope) (a : Addr) (ccd : Value) (cl : List (Str × Addr)) (outer : List Env) (A₀ : Around) (base h₀ : Heap) (L : Addr) (m : Str → Option Value) (s : Shared) (Q E : Value → Shared → Prop) (news : List (Addr × Obj)) (e₁ ua₁ ll₁ e₂ ua₂ ll₂ : Addr) (nd₁ : Int) (td₁ : Tok) (dl₂ : Value) (as₁ as₂ rs₁ rs₂ : List Value) (gs₁ gs₂ : List Str)
    (B : Below A₀ base outer h₀) (F : Fr h₀ L s.heap m) (X : (Mine.hd.heap_39 w.params).In h₀) (N : News h₀ L s.heap news) (T : Top p loose mean mg mb h₀) (C : CodeHd base 69 65) (hk : cs.kind = .function)
    (he1 : EntAt news e₁ ua₁ ll₁ (.int nd₁ td₁)) (he2 : EntAt news e₂ ua₂ ll₂ dl₂) (hl1 : ListAt news ua₁ as₁) (hl2 : ListAt news ua₂ as₂) (hr1 : ListAt news ll₁ rs₁) (hr2 : ListAt news ll₂ rs₂)
    (hA1 : StrsAre as₁ gs₁) (hA2 : StrsAre as₂ gs₂) (h631 : gs₁.length ≤ 63) (h632 : gs₂.length ≤ 63) (h641 : rs₁.length ≤ 63) (h642 : rs₂.length ≤ 63)
    (hd : dl₂ = .none ∨ ∃ n t, dl₂ = .int n t)
    (hdp : dp + 40 < recursionLimit) (hun : un + 400 < cLine)
    (hret : ∀ e ua ll as tl c h' tk', Fr h₀ L h' m → News h₀ L h' (tl ++ news) → (∀ p ∈ news, p.1 < c) → AllGe c tl → EntAt tl e ua ll (mergedDl (.int nd₁ td₁) dl₂) → ListAt tl ua as → ListAt tl ll (rs₁ ++ rs₂) →
      StrsAre as (gs₁.filter fun k => gs₂.any (· == k)) → Q (.ref e) { s with heap := h', toks := tk' }) :
    wpAny (model PySem.Challenge.pw_wy0073_01 w) (ktrTop dp un gd cn cs L a ccd cl outer) (call (.ref 63) [.ref e₁, .ref e₂]) Q E s := by
  obtain ⟨de, a1, b1, a2, b2, a3, b3, a4, b4, i1, i2⟩ := he1
  obtain ⟨df, c1, d1, c2, d2, c3, d3, c4, d4, j1, j2⟩ := he2
  obtain ⟨n1, hl1⟩ := hl1
  obtain ⟨n2, hl2⟩ := hl2
  obtain ⟨n3, hr1⟩ := hr1
  obtain ⟨n4, hr2⟩ := hr2
  refine wpAny_call ?_
  k_enter
  k_steps
  refine stop_out ?_
  rename News _ _ _ _ => NN
  rename Fr _ _ _ _ => FF
  refine set_strs_N FF NN rfl (by k_mem) hA2 h632 ?_
  clear FF NN
  intro x h' tk c o F₂ N₂ lx hSO hc
  k_steps
  refine stop_out ?_
  rename News _ _ _ _ => NN
  rename Fr _ _ _ _ => FF
  refine bc_N FF NN (by k_mem) hSO ?_
  clear FF NN
  intro b h' F₃ N₃ lb
  k_steps
  refine stop_out ?_
  rename News _ _ _ _ => NN
  rename Fr _ _ _ _ => FF
  refine fl_N FF NN (l := ua₁) (by k_mem) ?_
  clear FF NN
  intro f I h' F₄ N₄ lI lf
  k_steps
  refine stop_out ?_
  rename News _ _ _ _ => NN
  rename Fr _ _ _ _ => FF
  refine lf_N rfl FF NN (by k_mem) hSO hc hA1 h631 lx (lb _ (.head _)) (lI _ (.head _)) lf ?_
  clear FF NN
  intro q h' tk cc vs' F₅ N₅ lq hV
  simp only [List.mem_cons, forall_eq_or_imp] at lq
  obtain ⟨lq1, lq2, lq3, lq4, lq5⟩ := lq
  clear lq5 lx lb lI lf
  replace lq1 : @LT.lt Nat _ _ _ := lq1
  replace lq2 : @LT.lt Nat _ _ _ := lq2
  replace lq3 : @LT.lt Nat _ _ _ := lq3
  replace lq4 : @LT.lt Nat _ _ _ := lq4
  k_steps
  refine stop_out ?_
  rename News _ _ _ _ => NN
  rename Fr _ _ _ _ => FF
  refine kmk_add_lit (zs := rs₁ ++ rs₂) FF NN (is_lst (vs := rs₁) NN (by k_mem)) (is_lst (vs := rs₂) NN (by k_mem)) rfl ?_ (by rw [sizeLine_eq]; simp only [List.length_append]; omega)
  clear FF NN
  intro D h' F₆ N₆ lD
  simp only [List.mem_cons, forall_eq_or_imp] at lD
  obtain ⟨lD1, lD2, lD3, lD4, lD5, lD6⟩ := lD
  clear lD6
  replace lD1 : @LT.lt Nat _ _ _ := lD1
  replace lD2 : @LT.lt Nat _ _ _ := lD2
  replace lD3 : @LT.lt Nat _ _ _ := lD3
  replace lD4 : @LT.lt Nat _ _ _ := lD4
  replace lD5 : @LT.lt Nat _ _ _ := lD5
  rcases hd with rfl | ⟨nd, td, rfl⟩
  all_goals (
    k_steps
    rename News _ _ _ _ => NN
    rename Fr _ _ _ _ => FF
    refine hret _ _ _ _ [_, _, _, _, _, _] _ _ _ FF NN (by assumption) ?_ ⟨_, _, _, _, _, _, _, _, _, by k_mem, by k_mem⟩ ⟨_, by k_mem⟩ ⟨_, by k_mem⟩ hV
    (repeat (rename _ ∧ _ => hX; obtain ⟨hX1, hX2⟩ := hX))
    rename @LT.lt Addr _ _ _ => hYY
    replace hYY : @LT.lt Nat _ _ _ := hYY
    intro q hq
    simp only [List.mem_cons, List.not_mem_nil, or_false] at hq
    rcases hq with rfl | rfl | rfl | rfl | rfl | rfl <;> dsimp only <;> omega)
end

section
set_option maxRecDepth 100000
open PySem PySem.Spec PySem.Calls PyProof.Rows PyProof.V

/-! ## the script's picks -/
def par (r : Int) (k : Nat) : Bool := Int.fmod (0 + (k : Int)) 2 == r
def picked (r : Int) (ns : List Int) (i : Nat) : List Int := ((List.range i).filter (par r)).map fun k => ns.getD k 0
theorem picked_le (r : Int) (ns : List Int) (i : Nat) : (picked r ns i).length ≤ i := by
  unfold picked
  rw [List.length_map]
  have := List.length_filter_le (par r) (List.range i)
  rw [List.length_range] at this
  exact this
theorem pick_yes {r : Int} {ns : List Int} {i : Nat} {zs : List Value} {t : Tok} (hJ : All2 IsInt zs (picked r ns i)) (h : par r i = true) : All2 IsInt (zs ++ [.int (ns.getD (0 + (i : Int)).toNat 0) t]) (picked r ns (i + 1)) := by
  have e : (0 + (i : Int)).toNat = i := by omega
  rw [e]
  unfold picked
  rw [List.range_succ, List.filter_append, List.map_append]
  have : [i].filter (par r) = [i] := by simp [h]
  rw [this]; exact hJ.append (.cons ⟨t, rfl⟩ .nil)
theorem pick_no {r : Int} {ns : List Int} {i : Nat} {zs : List Value} (hJ : All2 IsInt zs (picked r ns i)) (h : par r i = false) : All2 IsInt zs (picked r ns (i + 1)) := by
  unfold picked
  rw [List.range_succ, List.filter_append, List.map_append]
  have : [i].filter (par r) = [] := by simp [h]
  rw [this]; simpa [picked] using hJ
theorem range_small {n : Nat} (h : n ≤ 63) : Builtin.Range.small 0 (n : Int) 1 = true := small_one (by decide) (by decide) (by omega) (by omega)
theorem range_len (n : Nat) : Builtin.Range.rangeSize 0 (n : Int) 1 = (n : Int) := by rw [rangeSize_nat]; simp
theorem rot4 {h₀ h : Heap} {L : Addr} {x y z t : Addr × Obj} {r : List (Addr × Obj)} (N : News h₀ L h (x :: y :: z :: t :: r)) : News h₀ L h (t :: (x :: y :: z :: r)) :=
  sub_news N fun p hp => by simp only [List.mem_cons] at hp ⊢; grind
theorem rot2 {h₀ h : Heap} {L : Addr} {x y : Addr × Obj} {r : List (Addr × Obj)} (N : News h₀ L h (x :: y :: r)) : News h₀ L h (y :: x :: r) :=
  sub_news N fun p hp => by simp only [List.mem_cons] at hp ⊢; grind
theorem drop2 {h₀ h : Heap} {L : Addr} {x y z t : Addr × Obj} {r tl : List (Addr × Obj)} (N : News h₀ L h (x :: ((y :: z :: t :: r) ++ tl))) : News h₀ L h (x :: z :: t :: (r ++ tl)) :=
  sub_news N fun p hp => by simp only [List.mem_cons, List.mem_append] at hp ⊢; grind
/-- the second entry's delay -/
def DlOk (v : Value) : Prop := v = .none ∨ ∃ t, v = .int 3 t
theorem by_value {M : Model} {A : Around} {E : Value → Shared → Prop} {s : Shared} {x : Sem Value} {Q : Value → Shared → Prop} (P : Value → Prop) (h : wpAny M A x (fun v s' => P v ∧ ∃ tk, s' = { s with toks := tk }) E s)
    (k : ∀ v tk, P v → Q v { s with toks := tk }) : wpAny M A x Q E s := wpAny_mono h (fun v s' ⟨hv, tk, e⟩ => e ▸ k v tk hv) (fun _ _ x => x)
theorem mem3 {α : Type} {x y z q : α} {l : List α} (h : q ∈ l) : q ∈ x :: y :: z :: l := .tail _ (.tail _ (.tail _ h))
theorem hide {h₀ h : Heap} {L : Addr} {l : List (Addr × Obj)} (N : News h₀ L h l) : ∃ nw, News h₀ L h nw ∧ ∀ q ∈ l, q ∈ nw := ⟨l, N, fun _ h => h⟩
theorem tabSt_nil : TabSt [] #[] := .inl rfl
theorem script_item {prog : Program} {w : World} {A : Around} {E : Value → Shared → Prop} {s : Shared} {h₀ : Heap} {L l : Addr} {m : Str → Option Value} {value slice : PySem.Expr} {vs : List Value} {ns : List Int} {i : Nat} {u : Tok} {Q : Value → Shared → Prop}
    (F : Fr h₀ L s.heap m) (hl : h₀.IsList l vs.toArray) (hi : IntsAre vs ns) (h63 : ns.length ≤ 63) (hk : i < ns.length) (h : ∀ t, Q (.int (ns.getD i 0) t) s)
    (hs : subscripted slice false (.ref l) (.int (0 + (i : Int)) u) = operate [.ref l, .int (0 + (i : Int)) u] (getItem (.ref l) (.int (0 + (i : Int)) u)) := by with_unfolding_all rfl)
    (hg : ∀ r, letTemporaryGo value (.ref l) r = pure () := by intro _; with_unfolding_all rfl) :
    wpAny (model prog w) A (subscriptTail value slice (.ref l) (.int (0 + (i : Int)) u)) Q E s := by
  refine item_list_ints (F.lst hl) hi (by omega) (by omega) (by omega) (fun t => ?_) hs hg
  have e : (0 + (i : Int)).toNat = i := by omega
  rw [e]; exact h t
end

section
set_option maxRecDepth 100000
open PySem PySem.Spec PySem.Calls PyProof.Rows PyProof.V
/-! ## a loop over a list, whatever its target -/
section
variable {prog : Program} {w : World} {A : Around} {E : Value → Shared → Prop} {s : Shared} {env : Env} {h₀ : Heap} {target : PySem.Expr} {body : List Stmt} {Q : Flow → Shared → Prop}
theorem loop_turns {l : Addr} {lo : Obj} {items : Array Value} {n : Nat} {m₀ : Str → Option Value} {news : List (Addr × Obj)} (J : Nat → (Str → Option Value) → List (Addr × Obj) → Prop)
    (hh : A.handled = none) (hc : lo.cls = .type "list") (hd : lo.data = .seq items n)
    (hkeep : ∀ i m nx h, J i m nx → (∀ b o, h₀.get? b = some o → h.get? b = some o) → News h₀ env.locals h nx → h.get? l = some lo)
    (F : Fr h₀ env.locals s.heap m₀) (N : News h₀ env.locals s.heap news) (hj : J 0 m₀ news)
    (turn : ∀ i v I oI m₁ nx h tk, items[i]? = some v → J i m₁ nx → (∀ q ∈ nx, q.1 ≠ I) → Fr h₀ env.locals h m₁ → News h₀ env.locals h ((I, oI) :: nx) →
      wpAny (model prog w) A (assign target env v) (fun _ s₃ => wpAny (model prog w) A (execs body env) (TPost h₀ env.locals I oI (J (i + 1)) { s with heap := h, toks := tk } Q) E s₃) E { s with heap := h, toks := tk })
    (done : ∀ m₁ nx h tk, J items.size m₁ nx → Fr h₀ env.locals h m₁ → News h₀ env.locals h nx → Q .next { s with heap := h, toks := tk }) :
    wpAny (model prog w) A (pyIter (.ref l)) (fun it s₂ => TurnsAt prog w A h₀ env target body Q E it s₂) E s := by
  have hlo := hkeep 0 m₀ news s.heap hj F.keep N
  have hls : s.heap.IsList l items := ⟨lo, hlo, hc, n, hd⟩
  have hlt : l < s.heap.objs.size := Heap.lt_size hlo
  have hne : l ≠ s.heap.objs.size := Nat.ne_of_lt hlt
  have hlL : l ≠ env.locals := by
    rintro rfl
    obtain ⟨o, es, ep, e, hdd, _⟩ := F.ns
    rw [hlo] at e; cases e; rw [hd] at hdd; cases hdd
  refine wpAny_pyIter_list hls ?_
  have W := Walks.list (prog := prog) (w := w) hh s.heap.objs.size l hne items
  refine ⟨_, _, _, _, _, _, _, m₀, news, J, rfl, KTurns.ofWalks W (fun i v s Q E st q => letGo_listiter st.1 q), ?_, ?_, ?_, ⟨⟨_, Heap.get?_push_size _ rfl, rfl, rfl⟩, hls.at fun o e => Heap.get?_push_of_some _ e⟩, F.push _, (fun p hp => ⟨Heap.get?_push_of_some _ (N p hp).1, (N p hp).2⟩), hj, ?_, ?_⟩
  · intro hm
    rcases List.mem_cons.mp hm with e | hm
    · exact absurd F.ns.lt (e ▸ Nat.lt_irrefl _)
    · exact hlL (List.mem_singleton.mp hm).symm
  · intro b hb
    rw [List.mem_singleton.mp hb]
    exact next_is_new F
  · intro p hp hI
    exact absurd (Heap.lt_size (N p hp).1) ((List.mem_singleton.mp hI) ▸ Nat.lt_irrefl _)
  · intro i v m₁ news₁ hh' tk' own hin hP hJ hoff hown hget _ hst F₁ N₁
    obtain ⟨⟨oI, hoI, _⟩, _⟩ := id hst
    have hI : ∀ q ∈ news₁, q.1 ≠ s.heap.objs.size := fun q hq e => hoff q hq (by rw [e]; exact List.mem_singleton.mpr rfl)
    have N₂ : News h₀ env.locals hh' ((s.heap.objs.size, oI) :: news₁) := fun p hp => by
      rcases List.mem_cons.mp hp with rfl | hp
      · exact ⟨hoI, Nat.ne_of_gt F.ns.lt, next_is_new F⟩
      · exact N₁ p (List.mem_append_right _ hp)
    have hl₁ : hh'.get? l = some lo := hkeep i m₁ news₁ hh' hJ F₁.keep fun p hp => N₁ p (List.mem_append_right _ hp)
    refine wpAny_mono (turn i v _ oI m₁ news₁ hh' tk' hP hJ hI F₁ N₂) (fun _ s₃ p => wpAny_mono p (fun f s₂ p => ?_) fun _ _ e => e) fun _ _ e => e
    have fin : TEnd h₀ env.locals s.heap.objs.size oI (J (i + 1)) { s with heap := hh', toks := tk' } s₂ → LoopStepU h₀ env.locals [s.heap.objs.size] own (J (i + 1)) { s with heap := hh', toks := tk' } .next s₂ := by
      rintro ⟨h', tk, m', nx', e, F', N', hn, hm⟩
      refine ⟨rfl, h', tk, m', nx', e, F', fun p hp => ?_, fun p hp hq => hn p hp (List.mem_singleton.mp hq), hm⟩
      have Nx : News h₀ env.locals h' nx' := fun p hp => N' p (List.mem_cons_of_mem _ hp)
      rcases List.mem_append.mp hp with ho | ho
      · have n1 := N₁ p (List.mem_append_left _ ho)
        refine ⟨?_, n1.2⟩
        rcases List.mem_cons.mp (hown p ho) with h1 | h1
        · have g1 := n1.1
          rw [h1, hoI] at g1
          rw [h1, ← g1]
          exact (N' (s.heap.objs.size, oI) (List.mem_cons_self ..)).1
        · have h2 := List.mem_singleton.mp h1
          have g1 := n1.1
          rw [h2, hl₁] at g1
          rw [h2, ← g1]
          exact hkeep (i + 1) m' nx' h' hm F'.keep Nx
      · exact Nx p ho
    cases f with
    | ret v => exact .ret p
    | brk => exact .brk p
    | next => exact .next (fin p)
    | cont => exact .cont (fin p)
  · rintro h' tk m' news' F' N' _ hJ
    exact done m' news' h' tk hJ F' N'
end
end

section
set_option maxRecDepth 100000
open PySem PySem.Spec PySem.Calls PyProof.Rows PyProof.V
/-! ## the law's loops: the ledger stands, a few names change -/
def FlatJ (x : Str) (news : List (Addr × Obj)) (m₀ : Str → Option Value) (m : Str → Option Value) (nx : List (Addr × Obj)) : Prop := nx = news ∧ ∀ z : Str, z ≠ x → m z = m₀ z
def TripJ (news : List (Addr × Obj)) (m₀ : Str → Option Value) (m : Str → Option Value) (nx : List (Addr × Obj)) : Prop :=
  nx = news ∧ ∀ z : Str, z ≠ ("entry" : Str) → z ≠ ("row" : Str) → z ≠ ("name" : Str) → m z = m₀ z
theorem flat_m {x : Str} {m m₀ : Str → Option Value} (h : ∀ z : Str, z ≠ x → m z = m₀ z) : m = fun y => if y = x then m x else m₀ y := by
  funext z
  by_cases h1 : z = x
  · simp [h1]
  · simp only [if_neg h1]; exact h z h1
theorem trip_m {m m₀ : Str → Option Value} (h : ∀ z : Str, z ≠ ("entry" : Str) → z ≠ ("row" : Str) → z ≠ ("name" : Str) → m z = m₀ z) :
    m = fun y => if y = ("entry" : Str) then m "entry" else if y = ("row" : Str) then m "row" else if y = ("name" : Str) then m "name" else m₀ y := by
  funext z
  by_cases h1 : z = "entry"
  · simp [h1]
  · by_cases h2 : z = "row"
    · simp only [if_neg h1, if_pos h2]; rw [h2]
    · by_cases h3 : z = "name"
      · simp only [if_neg h1, if_neg h2, if_pos h3]; rw [h3]
      · simp only [if_neg h1, if_neg h2, if_neg h3]; exact h z h1 h2 h3
section
variable {prog : Program} {w : World} {A : Around} {E : Value → Shared → Prop} {s : Shared} {env : Env} {h₀ : Heap} {body : List Stmt} {Q : Flow → Shared → Prop} {target : PySem.Expr}
theorem flat_loop {l : Addr} {items : Array Value} {n : Nat} {m₀ : Str → Option Value} {news : List (Addr × Obj)} {x : Str}
    (hh : A.handled = none) (F : Fr h₀ env.locals s.heap m₀) (N : News h₀ env.locals s.heap news) (hl : (l, listOf items n) ∈ news)
    (turn : ∀ (i : Nat) v I oI h tk, items[i]? = some v → (∀ q ∈ news, q.1 ≠ I) → Fr h₀ env.locals h (fun y => if y = x then some v else m₀ y) → News h₀ env.locals h ((I, oI) :: news) →
      wpAny (model prog w) A (execs body env) (TPost h₀ env.locals I oI (FlatJ x news m₀) { s with heap := h, toks := tk } Q) E { s with heap := h, toks := tk })
    (done : ∀ u h tk, Fr h₀ env.locals h (fun y => if y = x then u else m₀ y) → News h₀ env.locals h news → Q .next { s with heap := h, toks := tk }) :
    wpAny (model prog w) A (pyIter (.ref l)) (fun it s₂ => LoopAtV prog w A h₀ env x body Q E it s₂) E s := by
  refine loop_list (news := news) (lo := listOf items n) (items := items) (n := n) (fun _ => FlatJ x news m₀) hh rfl rfl ?_ F N ⟨rfl, fun _ _ => rfl⟩ ?_ ?_
  · rintro i m nx h ⟨rfl, _⟩ _ N'
    exact (N' _ hl).1
  · rintro i v I oI m₁ nx h tk hv ⟨rfl, hm⟩ hI F₁ N₁
    have e1 : (fun y => if y = x then some v else m₁ y) = fun y => if y = x then some v else m₀ y := by
      funext z
      by_cases h1 : z = x
      · simp [h1]
      · simp only [if_neg h1]; exact hm z h1
    rw [e1] at F₁
    exact turn i v I oI h tk hv hI F₁ N₁
  · rintro m₁ nx h tk ⟨rfl, hm⟩ F₁ N₁
    rw [flat_m hm] at F₁
    exact done _ h tk F₁ N₁
theorem flat_next {news : List (Addr × Obj)} {m₀ m' : Str → Option Value} {x : Str} {L I : Addr} {oI : Obj} {h' : Heap} {tk : Nat} {s₁ : Shared} {f : Flow} (hf : f = .next)
    (hI : ∀ q ∈ news, q.1 ≠ I) (F : Fr h₀ L h' m') (N : News h₀ L h' ((I, oI) :: news)) (hm : ∀ z : Str, z ≠ x → m' z = m₀ z) : TPost h₀ L I oI (FlatJ x news m₀) s₁ Q f { s₁ with heap := h', toks := tk } := by
  subst hf
  exact ⟨h', tk, m', news, rfl, F, N, hI, rfl, hm⟩
theorem trip_loop {l : Addr} {items : Array Value} {n : Nat} {m₀ : Str → Option Value} {news : List (Addr × Obj)} (P : Value → Prop) (hP : ∀ (i : Nat) v, items[i]? = some v → P v)
    (hh : A.handled = none) (F : Fr h₀ env.locals s.heap m₀) (N : News h₀ env.locals s.heap news) (hl : (l, listOf items n) ∈ news)
    (turn : ∀ v I oI u1 u2 u3 h tk, P v → (∀ q ∈ news, q.1 ≠ I) → Fr h₀ env.locals h (fun y => if y = ("entry" : Str) then u1 else if y = ("row" : Str) then u2 else if y = ("name" : Str) then u3 else m₀ y) → News h₀ env.locals h ((I, oI) :: news) →
      wpAny (model prog w) A (assign target env v) (fun _ s₃ => wpAny (model prog w) A (execs body env) (TPost h₀ env.locals I oI (TripJ news m₀) { s with heap := h, toks := tk } Q) E s₃) E { s with heap := h, toks := tk })
    (done : ∀ u1 u2 u3 h tk, Fr h₀ env.locals h (fun y => if y = ("entry" : Str) then u1 else if y = ("row" : Str) then u2 else if y = ("name" : Str) then u3 else m₀ y) → News h₀ env.locals h news → Q .next { s with heap := h, toks := tk }) :
    wpAny (model prog w) A (pyIter (.ref l)) (fun it s₂ => TurnsAt prog w A h₀ env target body Q E it s₂) E s := by
  refine loop_turns (news := news) (lo := listOf items n) (items := items) (n := n) (fun _ => TripJ news m₀) hh rfl rfl ?_ F N ⟨rfl, fun _ _ _ _ => rfl⟩ ?_ ?_
  · rintro i m nx h ⟨rfl, _⟩ _ N'
    exact (N' _ hl).1
  · rintro i v I oI m₁ nx h tk hv ⟨rfl, hm⟩ hI F₁ N₁
    rw [trip_m hm] at F₁
    exact turn v I oI _ _ _ h tk (hP i v hv) hI F₁ N₁
  · rintro m₁ nx h tk ⟨rfl, hm⟩ F₁ N₁
    rw [trip_m hm] at F₁
    exact done _ _ _ h tk F₁ N₁
theorem trip_next {news : List (Addr × Obj)} {m₀ m' : Str → Option Value} {L I : Addr} {oI : Obj} {h' : Heap} {tk : Nat} {s₁ : Shared}
    (hI : ∀ q ∈ news, q.1 ≠ I) (F : Fr h₀ L h' m') (N : News h₀ L h' ((I, oI) :: news)) (hm : ∀ z : Str, z ≠ ("entry" : Str) → z ≠ ("row" : Str) → z ≠ ("name" : Str) → m' z = m₀ z) :
    TPost h₀ L I oI (TripJ news m₀) s₁ Q .next { s₁ with heap := h', toks := tk } :=
  ⟨h', tk, m', news, rfl, F, N, hI, rfl, hm⟩
end

/-- an entry and its row, as the law pairs them -/
def PairOk (w : World) (l : List (Addr × Obj)) (v : Value) : Prop :=
  ∃ t e rl ua ll dl rs ts as gs ns k, v = .ref t ∧ (t, ({ cls := .type "tuple", data := .seq #[.ref e, .ref rl] k } : Obj)) ∈ l ∧ EntAt l e ua ll dl ∧ ListAt l ua as ∧ ListAt l ll rs ∧ ListAt l rl ts ∧ StrsAre as gs ∧ RowsAre w l rs ts ns ∧
    ns.length ≤ 63 ∧ gs.length ≤ 63 ∧ StrOks gs ∧ ∀ g ∈ gs, g.length ≤ 100

theorem picks_le (ns : List Int) : ∀ i : Nat, (picked 0 ns i).length + (picked 1 ns i).length ≤ i
  | 0 => by simp [picked]
  | i + 1 => by
    have ih := picks_le ns i
    unfold picked at ih ⊢
    simp only [List.length_map, List.range_succ, List.filter_append, List.length_append] at ih ⊢
    have h : ([i].filter (par 0)).length + ([i].filter (par 1)).length ≤ 1 := by
      simp only [List.filter_cons, List.filter_nil]
      by_cases h0 : par 0 i = true
      · have h1 : par 1 i = false := by
          unfold par at h0 ⊢
          have := eq_of_beq h0
          rw [this]; decide
        simp [h0, h1]
      · simp only [h0, if_false, Bool.false_eq_true]
        split <;> simp
    omega
theorem menu_cases (n : Int) : agentOf n = "*" ∨ agentOf n = "Fig" ∨ agentOf n = "fig-bot" ∨ agentOf n = "DATE" ∨ agentOf n = "x/1" ∨ agentOf n = "Old Fig" := by
  obtain ⟨h0, h6⟩ := fmod6 n
  obtain ⟨k, hk⟩ : ∃ k, (n.fmod 6).toNat = k := ⟨_, rfl⟩
  have hlt : k < 6 := by omega
  unfold agentOf menu
  rw [hk]
  match k, hlt with
  | 0, _ => exact .inl rfl
  | 1, _ => exact .inr (.inl rfl)
  | 2, _ => exact .inr (.inr (.inl rfl))
  | 3, _ => exact .inr (.inr (.inr (.inl rfl)))
  | 4, _ => exact .inr (.inr (.inr (.inr (.inl rfl))))
  | 5, _ => exact .inr (.inr (.inr (.inr (.inr rfl))))
theorem agents_ok (ns : List Int) : StrOks (ns.map agentOf) ∧ ∀ g ∈ ns.map agentOf, g.length ≤ 100 := by
  constructor
  all_goals (
    intro g hg
    obtain ⟨n, _, rfl⟩ := List.mem_map.mp hg
    rcases menu_cases n with e | e | e | e | e | e <;> rw [e] <;> decide +kernel)
end

section
set_option maxRecDepth 100000
open PySem PySem.Spec PySem.Calls PyProof.Rows PyProof.V
theorem flt_yes {p : Str → Bool} {g : Str} {gs : List Str} {i : Nat} {zs : List Value} {t : Tok} (hJ : StrsAre zs ((gs.take i).filter p)) (hn : gs[i]? = some g) (h : p g = true) : StrsAre (zs ++ [.str g t]) ((gs.take (i + 1)).filter p) := by
  rw [take_snoc hn, List.filter_append]
  have : [g].filter p = [g] := by simp [h]
  rw [this]; exact hJ.append (.cons ⟨t, rfl⟩ .nil)
theorem flt_no {p : Str → Bool} {g : Str} {gs : List Str} {i : Nat} {zs : List Value} (hJ : StrsAre zs ((gs.take i).filter p)) (hn : gs[i]? = some g) (h : p g = false) : StrsAre zs ((gs.take (i + 1)).filter p) := by
  rw [take_snoc hn, List.filter_append]
  have : [g].filter p = [] := by simp [h]
  rw [this]; simpa using hJ
theorem st_ne_self {prog : Program} {w : World} {A : Around} {E : Value → Shared → Prop} {s : Shared} {a b : Addr} {xs ys : List Value} {ns : List Str} {Q : Value → Shared → Prop} (ha : s.heap.IsList a xs.toArray) (hb : s.heap.IsList b ys.toArray) (hi : StrsAre xs ns) (hj : StrsAre ys ns) (oi : StrOks ns) (hu : A.units + 64 < cLine) (h : Q (.bool false) s) :
    wpAny (model prog w) A (compareOp .NotEq (.ref a) (.ref b)) Q E s := st_ne_strs ha hb hi hj oi oi hu (by rw [decide_eq_true rfl]; exact h)
/-- two lists of the same things are the same -/
theorem ne_same {prog : Program} {w : World} {A : Around} {E : Value → Shared → Prop} {s : Shared} {a b : Addr} {xs : Array Value} {Q : Value → Shared → Prop} (ha : s.heap.IsList a xs) (hb : s.heap.IsList b xs) (hu : A.units + 64 < cLine) (h : Q (.bool false) s) :
    wpAny (model prog w) A (compareOp .NotEq (.ref a) (.ref b)) Q E s := by
  have e : (!(List.range xs.size).all (fun _ => true)) = false := by rw [List.all_eq_true.mpr fun _ _ => rfl]; rfl
  exact (SeqAt.RcNeAt.lists (A := A) (s := s) (e := fun _ => true) ha hb rfl (by omega) (fun j _ _ => SeqAt.EqAt.same _)) prog w E Q (by rw [e]; exact h)
end

section
set_option maxRecDepth 100000
open PySem PySem.Spec PySem.Calls PyProof.Rows PyProof.V
/-! ## Entry.__str__: its loop -/
def sayAg (g : Str) : Str := "User-agent: " ++ g
def SayJ (rl : Addr) (news : List (Addr × Obj)) (m₀ : Str → Option Value) (gs : List Str) (i : Nat) (m : Str → Option Value) (nx : List (Addr × Obj)) : Prop :=
  ∃ zs n, nx = (rl, listOf zs.toArray n) :: news ∧ StrsAre zs ((gs.take i).map sayAg) ∧ ∀ z : Str, z ≠ ("agent" : Str) → m z = m₀ z
section
variable {prog : Program} {w : World} {A : Around} {E : Value → Shared → Prop} {s : Shared} {env : Env} {h₀ : Heap} {body : List Stmt} {Q : Flow → Shared → Prop}
theorem say_loop {ua rl : Addr} {news : List (Addr × Obj)} {as : List Value} {gs : List Str} {nn : Nat} {m₀ : Str → Option Value}
    (hh : A.handled = none) (F : Fr h₀ env.locals s.heap m₀) (N : News h₀ env.locals s.heap ((rl, listOf #[] 0) :: news)) (hl : (ua, listOf as.toArray nn) ∈ news) (hA : StrsAre as gs)
    (turn : ∀ i g t zs n I oI h tk, gs[i]? = some g → zs.length = i → StrsAre zs ((gs.take i).map sayAg) → (@Ne Nat rl I) → (∀ q ∈ news, q.1 ≠ I) →
      Fr h₀ env.locals h (fun y => if y = "agent" then some (.str g t) else m₀ y) → News h₀ env.locals h ((I, oI) :: (rl, listOf zs.toArray n) :: news) →
      wpAny (model prog w) A (execs body env) (TPost h₀ env.locals I oI (SayJ rl news m₀ gs (i + 1)) { s with heap := h, toks := tk } Q) E { s with heap := h, toks := tk })
    (done : ∀ u zs n h tk, StrsAre zs (gs.map sayAg) → Fr h₀ env.locals h (fun y => if y = "agent" then u else m₀ y) → News h₀ env.locals h ((rl, listOf zs.toArray n) :: news) → Q .next { s with heap := h, toks := tk }) :
    wpAny (model prog w) A (pyIter (.ref ua)) (fun it s₂ => LoopAtV prog w A h₀ env "agent" body Q E it s₂) E s := by
  refine loop_list (lo := listOf as.toArray nn) (items := as.toArray) (n := nn) (SayJ rl news m₀ gs) hh rfl rfl ?_ F N ⟨[], 0, rfl, .nil, fun _ _ => rfl⟩ ?_ ?_
  · rintro i m nx h ⟨zs, n, rfl, _⟩ _ N'
    exact (N' _ (.tail _ hl)).1
  · rintro i v I oI m₁ nx h tk hv ⟨zs, n, rfl, hz, hm⟩ hI F₁ N₁
    obtain ⟨g, hg, t, rfl⟩ := hA.get (show as[i]? = some v by simpa using hv)
    have e1 : (fun y => if y = ("agent" : Str) then some (Value.str g t) else m₁ y) = fun y => if y = ("agent" : Str) then some (Value.str g t) else m₀ y := by
      funext z
      by_cases h1 : z = "agent"
      · simp [h1]
      · simp only [if_neg h1]; exact hm z h1
    rw [e1] at F₁
    simp only [List.forall_mem_cons] at hI
    exact turn i g t zs n I oI h tk hg (by rw [hz.length, List.length_map, take_le hg]) hz hI.1 hI.2 F₁ N₁
  · rintro m₁ nx h tk ⟨zs, n, rfl, hz, hm⟩ F₁ N₁
    have hsz : as.toArray.size = gs.length := by simp [hA.length]
    rw [hsz, List.take_length] at hz
    refine done (m₁ "agent") zs n h tk hz ?_ N₁
    have e1 : (fun y => if y = ("agent" : Str) then m₁ "agent" else m₀ y) = m₁ := by
      funext z
      by_cases h1 : z = "agent"
      · simp [h1]
      · simp only [if_neg h1]; exact (hm z h1).symm
    rw [e1]; exact F₁
theorem say_next {rl L I : Addr} {news : List (Addr × Obj)} {m₀ m' : Str → Option Value} {gs : List Str} {g x : Str} {t : Tok} {i n : Nat} {zs : List Value} {oI : Obj} {h' : Heap} {tk : Nat} {s₁ : Shared}
    (hg : gs[i]? = some g) (hz : StrsAre zs ((gs.take i).map sayAg)) (hx : x = sayAg g) (n1 : @Ne Nat rl I) (hI : ∀ q ∈ news, q.1 ≠ I) (F : Fr h₀ L h' m') (N : News h₀ L h' ((I, oI) :: (rl, listOf (zs.toArray.push (Value.str x t)) n) :: news))
    (hm : ∀ z : Str, z ≠ ("agent" : Str) → m' z = m₀ z) : TPost h₀ L I oI (SayJ rl news m₀ gs (i + 1)) s₁ Q .next { s₁ with heap := h', toks := tk } := by
  have e : zs.toArray.push (Value.str x t) = (zs ++ [Value.str x t]).toArray := by simp
  rw [e] at N
  refine ⟨h', tk, m', _, rfl, F, N, ?_, _, n, rfl, ?_, hm⟩
  · simp only [List.forall_mem_cons]; exact ⟨n1, hI⟩
  · subst hx
    rw [take_snoc hg, List.map_append]
    exact hz.append (.cons ⟨t, rfl⟩ .nil)
end
theorem lst_truthy {prog : Program} {w : World} {A : Around} {E : Value → Shared → Prop} {s : Shared} {h₀ : Heap} {L l : Addr} {news : List (Addr × Obj)} {vs : List Value} {n : Nat} {xs : List Str} {Q : Bool → Shared → Prop}
    (N : News h₀ L s.heap news) (hm : (l, listOf vs.toArray n) ∈ news) (hi : StrsAre vs xs) (h63 : xs.length ≤ 63) (h : Q (!xs.isEmpty) { s with toks := s.toks + 1 + 1 }) : wpAny (model prog w) A (truthy (.ref l)) Q E s := by
  refine wpAny_truthy_list (items := vs.toArray) ⟨_, (N _ hm).1, rfl, n, rfl⟩ (by rw [List.size_toArray, hi.length]; omega) ?_
  have e : (!vs.toArray.isEmpty) = !xs.isEmpty := by
    cases hi <;> rfl
  rw [e]; exact h
def dlLines : Value → List Str
  | .none => []
  | _ => ["Crawl-delay: 3"]
def toldRows (gs : List Str) (dl : Value) (ss : List Str) : List Str := gs.map sayAg ++ dlLines dl ++ (if ss.isEmpty then [("Allow:" : Str)] else ss)
def toldText (gs : List Str) (dl : Value) (ss : List Str) : Str := if gs.isEmpty then "" else Txt.join "\n" (toldRows gs dl ss)
theorem sum_le {k : Nat} : ∀ {ys : List Str}, (∀ y ∈ ys, y.length ≤ k) → (ys.map (·.length)).sum ≤ ys.length * k
  | [], _ => by simp
  | y :: r, h => by
    have ih := sum_le fun z hz => h z (.tail _ hz)
    have h1 := h y (.head _)
    simp only [List.map_cons, List.sum_cons, List.length_cons, Nat.add_mul, Nat.one_mul]
    omega
theorem join_N {prog : Program} {w : World} {A : Around} {E : Value → Shared → Prop} {s : Shared} {h₀ : Heap} {L l : Addr} {news : List (Addr × Obj)} {items : Array Value} {vs : List Value} {n : Nat} {ys : List Str} {t : Tok} {Q : Value → Shared → Prop}
    (N : News h₀ L s.heap news) (hm : (l, listOf items n) ∈ news) (e : items.toList = vs) (hi : StrsAre vs ys) (hk : ∀ y ∈ ys, y.length ≤ 200) (hn : ys.length ≤ 300) (h : ∀ t' k, Q (.str (Txt.join "\n" ys) t') { s with toks := k }) :
    wpAny (model prog w) A (call (.builtin "str.join") [.str "\n" t, .ref l]) Q E s := by
  subst e
  have hs := sum_le hk
  refine join_list ⟨_, (N _ hm).1, rfl, n, rfl⟩ (strs_of hi) ?_ h
  have e1 : Str.length ("\n" : Str) = 1 := by decide +kernel
  rw [e1]
  have := Nat.mul_le_mul_right 200 hn
  omega
theorem told_text {gs ss : List Str} {dl : Value} (h : gs.isEmpty = false) : toldText gs dl ss = Txt.join "\n" (toldRows gs dl ss) := by unfold toldText; rw [h]; rfl
theorem told_len {gs ss : List Str} {dl : Value} (hg : ∀ g ∈ gs, g.length ≤ 100) (hs : ∀ y ∈ ss, y.length ≤ 100) : ∀ y ∈ toldRows gs dl ss, y.length ≤ 200 := by
  have e1 : Str.length ("User-agent: " : Str) = 12 := by decide +kernel
  have e2 : Str.length ("Allow:" : Str) = 6 := by decide +kernel
  have e3 : Str.length ("Crawl-delay: 3" : Str) = 14 := by decide +kernel
  intro y hy
  unfold toldRows at hy
  rcases List.mem_append.mp hy with hy | hy
  · rcases List.mem_append.mp hy with hy | hy
    · obtain ⟨g, hgm, rfl⟩ := List.mem_map.mp hy
      have := hg g hgm
      unfold sayAg
      rw [Str.length_append, e1]; omega
    · cases dl <;> simp only [dlLines, List.mem_cons, List.not_mem_nil, or_false] at hy <;> first | (subst hy; rw [e3]; omega) | cases hy
  · split at hy
    · simp only [List.mem_cons, List.not_mem_nil, or_false] at hy
      subst hy; rw [e2]; omega
    · have := hs y hy; omega
theorem told_count {gs ss : List Str} {dl : Value} (hg : gs.length ≤ 63) (hs : ss.length ≤ 63) : (toldRows gs dl ss).length ≤ 300 := by
  unfold toldRows
  simp only [List.length_append, List.length_map]
  have h1 : (dlLines dl).length ≤ 1 := by cases dl <;> simp [dlLines]
  split
  · simp; omega
  · omega
end

section
set_option maxRecDepth 100000
open PySem PySem.Spec PySem.Calls PyProof.Rows PyProof.V

/-! ## map(str, list) -/
theorem mp_mro : mroOf (.type "map") = pure [.type "map", .type "object"] := by rw [mroOf_type]; kernel_rfl
theorem mp_lookup_new : typeLookup (.type "map") "__new__" = pure (some (.builtin "map.__new__")) := by rw [typeLookup_type, builtinLookup_eq_fast]; kernel_rfl
theorem mp_slot_init : Slot "map" "__init__" "object.__init__" :=
  .of (owner := "object") (n := "__init__") (by rw [typeLookup_type, builtinLookup_eq_fast]; kernel_rfl) (by decide +kernel) (by decide +kernel) (by decide +kernel)
    (by first | exact .inl (by decide +kernel) | exact .inr (by decide +kernel)) (by rw [isSubtype_type]; kernel_rfl)
theorem mp_called : TypeCalled "map" "map.__new__" "object.__init__" :=
  ⟨by decide +kernel, by decide +kernel, ⟨_, _, mp_mro⟩, madeBy_type mp_mro mp_lookup_new (by decide +kernel), by decide +kernel, by rw [isSubtype_type]; kernel_rfl, mp_slot_init⟩
theorem mp_typeCall (a b : Value) : checkTypeCall "map" ⟨[a, b], []⟩ = pure () := by kernel_rfl
theorem mp_newCall (a b : Value) : checkBuiltinCall "map.__new__" ⟨[.type "map", a, b], []⟩ = pure () := by kernel_rfl
theorem mp_entry_new : entryFor table "map.__new__" = some Builtin.«map.__new__» := entryFor_of_tree (by kernel_rfl)
theorem mp_sub : isSubtype (.type "map") (.type "map") = pure true := by rw [isSubtype_type]; kernel_rfl
theorem mp_no_len : typeLookup (.type "map") "__len__" = pure none := by rw [typeLookup_type, builtinLookup_eq_fast]; kernel_rfl
theorem mp_no_hint : typeLookup (.type "map") "__length_hint__" = pure none := by rw [typeLookup_type, builtinLookup_eq_fast]; kernel_rfl
theorem mp_noLen : NoLen "map" := ⟨by decide, by decide, mp_no_len, mp_no_hint⟩
theorem mp_slot_next : Slot "map" "__next__" "map.__next__" :=
  .of (owner := "map") (n := "__next__") (by rw [typeLookup_type, builtinLookup_eq_fast]; kernel_rfl) (by decide +kernel) (by decide +kernel) (by decide +kernel)
    (by first | exact .inl (by decide +kernel) | exact .inr (by decide +kernel)) (by rw [isSubtype_type]; kernel_rfl)
theorem mp_entry_next : entryFor table "map.__next__" = some Builtin.«map.__next__» := entryFor_of_tree (by kernel_rfl)
theorem mp_owner : Manifest.owners.lookup (String.ofList "pam".toList.reverse) = some Manifest.sig_map := by kernel_rfl
theorem mp_args_next (a : Value) : argsOk "map.__next__" ⟨[a], []⟩ := by unfold argsOk; rw [signature?_of (id := "map.__next__") (n := "__txen__".toList) (o := "pam".toList) (by kernel_rfl) mp_owner]; kernel_rfl
theorem mp_plain_next : plainId "map.__next__" = true := by decide +kernel
theorem mp_slot_iter : Slot "map" "__iter__" "map.__iter__" :=
  .of (owner := "map") (n := "__iter__") (by rw [typeLookup_type, builtinLookup_eq_fast]; kernel_rfl) (by decide +kernel) (by decide +kernel) (by decide +kernel)
    (by first | exact .inl (by decide +kernel) | exact .inr (by decide +kernel)) (by rw [isSubtype_type]; kernel_rfl)
theorem mp_entry_iter : entryFor table "map.__iter__" = some Builtin.«dict_keyiterator.__iter__» :=
  entryFor_alias (id' := "dict_keyiterator.__iter__") (by rw [fastTable_eq_tree]; kernel_rfl) rfl (by decide +kernel) (by rw [fastTable_eq_tree]; kernel_rfl)
theorem mp_args_iter (a : Value) : argsOk "map.__iter__" ⟨[a], []⟩ := by unfold argsOk; rw [signature?_of (id := "map.__iter__") (n := "__reti__".toList) (o := "pam".toList) (by kernel_rfl) mp_owner]; kernel_rfl

def mpTup (I : Addr) : Obj := { cls := .type "tuple", data := .seq #[.ref I] }
def mpObj (T : Addr) : Obj := { cls := .type "map", data := .fields #[.ref T, .type "str"] }
def mpH1 (h : Heap) (l : Addr) : Heap := h.push { cls := .type "list_iterator", data := .fields #[.ref l, .int 0 0] }
def mpH2 (h : Heap) (l : Addr) : Heap := (mpH1 h l).push (mpTup h.objs.size)
def mpH3 (h : Heap) (l : Addr) : Heap := (mpH2 h l).push (mpObj (mpH1 h l).objs.size)
theorem mp_meets_new (l : Addr) (xs : Array Value) :
    Meets (Builtin.«map.__new__» ⟨[.type "map", .type "str", .ref l], []⟩) (fun _ R s => s.heap.IsList l xs ∧
      R (.ok (.ret (.ref (mpH2 s.heap l).objs.size))) { s with heap := mpH3 s.heap l }) :=
  .of_wp fun prog w A R s h => by
    obtain ⟨hp, g, d, tk, os⟩ := s; obtain ⟨hl, h⟩ := h
    have hsub := mp_sub
    have hL1 : Heap.IsList (Shared.heap ⟨hp, g, d, tk, os⟩) l xs := hl
    wp_walk using wpAny_pyIter_list hL1
    exact ⟨_, rfl, h⟩
section
variable {prog : Program} {w : World} {A : Around} {E : Value → Shared → Prop} {s : Shared}
theorem mp_new {l : Addr} {xs : Array Value} {Q : Value → Shared → Prop} (hl : s.heap.IsList l xs)
    (h : Q (.ref (mpH2 s.heap l).objs.size) { s with heap := mpH3 s.heap l }) :
    wpAny (model prog w) A (call (.type "map") [.type "str", .ref l]) Q E s := by
  refine callType_new mp_called (by decide) (mp_typeCall _ _) (mp_newCall _ _) (fun obj => PySem.F.args_object_init_3 obj _ _) mp_entry_new
    (mp_meets_new l xs) ⟨hl, ?_⟩
  exact ⟨⟨mpObj (mpH1 s.heap l).objs.size, Heap.get?_push_size _ rfl, rfl⟩, h⟩
end
end

section
set_option maxRecDepth 100000
open PySem PySem.Spec PySem.Calls PyProof.Rows PyProof.V
structure MpAt (f T I l : Addr) (items : Array Value) (j : Nat) (h : Heap) : Prop where
  mp : h.get? f = some (mpObj T)
  tu : h.get? T = some (mpTup I)
  it : h.IsListIter I l j
  li : h.IsList l items
section
variable {prog : Program} {w : World} {A : Around} {E : Value → Shared → Prop} {s : Shared}
theorem mp_item {f T I l : Addr} {items : Array Value} {j : Nat} {y : Str} {t : Tok} {Q : Value → Shared → Prop} (X : MpAt f T I l items j s.heap) (hv : items[j]? = some (.str y t)) (hf : f ≠ I)
    (h : ∀ h', h'.IsListIter I l (j + 1) → Heap.SameBut I s.heap h' → Q (.str y t) { s with heap := h' }) :
    wpAny (model prog w) A (Builtin.«map.__next__» ⟨[.ref f], []⟩) (fun fin s' => ∃ v, fin = .done (.ret v) ∧ Q v s') E s := by
  show wpAny _ _ (field (.ref f) 0 >>= _) _ _ _
  refine wpAny_bind (wpAny_field X.mp rfl (x := .ref T) rfl ?_)
  refine wpAny_bind (wpAny_seqItems X.tu rfl ?_)
  dsimp only
  simp only [← Array.forIn_toList, List.forIn_cons, List.forIn_nil]
  refine wpAny_bind (wpAny_bind (wpAny_bind (wpAny_holding ?_)))
  refine wpAny_nextOf_list_item X.it X.li hv fun h' hit hs => ?_
  refine wpAny_pure (wpAny_pure ?_)
  have hm : h'.get? f = some (mpObj T) := hs.extBut _ _ hf X.mp
  refine wpAny_bind (wpAny_field (s := { s with heap := h' }) hm rfl (x := .type "str") rfl ?_)
  refine wpAny_bind (wpAny_holding ?_)
  refine P.str_of_str ?_
  refine wpAny_bind (wpAny_letGo ?_)
  exact wpAny_pure ⟨_, rfl, h h' hit hs⟩
theorem mp_end {f T I l : Addr} {items : Array Value} {j : Nat} {Q : Fin → Shared → Prop} (hh : A.handled = none) (X : MpAt f T I l items j s.heap) (hv : items[j]? = none)
    (h : ∀ h' e, Heap.ExtBut I s.heap h' → (∃ o, h'.get? e = some o ∧ o.cls = .type "StopIteration") → E (.ref e) { s with heap := h' }) :
    wpAny (model prog w) A (Builtin.«map.__next__» ⟨[.ref f], []⟩) Q E s := by
  show wpAny _ _ (field (.ref f) 0 >>= _) _ _ _
  refine wpAny_bind (wpAny_field X.mp rfl (x := .ref T) rfl ?_)
  refine wpAny_bind (wpAny_seqItems X.tu rfl ?_)
  dsimp only
  simp only [← Array.forIn_toList, List.forIn_cons, List.forIn_nil]
  refine wpAny_bind (wpAny_bind (wpAny_bind (wpAny_holding ?_)))
  exact wpAny_nextOf_list_end hh X.it X.li hv h
end
end

section
set_option maxRecDepth 100000
open PySem PySem.Spec PySem.Calls PyProof.Rows PyProof.V
section
variable {prog : Program} {w : World} {A : Around}
theorem mp_walks {f T I l : Addr} {items : Array Value} {ss : List Str} (hh : A.handled = none) (hy : StrsAre items.toList ss) (hf : f ≠ I) (hT : T ≠ I) (hl : l ≠ I) :
    WalksS prog w A f [f, T, I, l] [I] (fun a b => b = a) ss.length (fun i v => ∃ y t, ss[i]? = some y ∧ v = .str y t) (fun i s => MpAt f T I l items i s.heap) where
  sub := by intro b hb; simp at hb; simp [hb]
  grefl := fun _ => rfl
  gtrans := fun _ _ _ h1 h2 => h2.trans h1
  frame := fun i s h' tk X _ hk => ⟨hk f (by simp) _ X.mp, hk T (by simp) _ X.tu, X.it.at fun o e => hk I (by simp) o e, X.li.at fun o e => hk l (by simp) o e⟩
  item := fun i s Q E hi X hQ => by
    have hTy : s.TypeIs (.ref f) "map" := ⟨_, X.mp, rfl⟩
    have hlt' : i < items.toList.length := by rw [hy.length]; exact hi
    obtain ⟨y, hyj, t, e⟩ := hy.get (List.getElem?_eq_getElem hlt')
    have hv : items[i]? = some (.str y t) := by rw [← e, ← Array.getElem?_toList]; exact List.getElem?_eq_getElem hlt'
    unfold pyNext
    refine wpAny_bind (wpAny_attempt (wpAny_callSpecial?_slot (name := Str.ofString "__next__") hTy mp_slot_next
      (wpAny_call_entry mp_slot_next hTy mp_entry_next (mp_item X hv hf fun h' hit hs => wpAny_pure (hQ _ _ ⟨y, t, hyj, rfl⟩ ⟨hs.extBut _ _ hf X.mp, hs.extBut _ _ hT X.tu, hit, X.li.extBut hs.extBut hl⟩
        ⟨fun b o hb e => hs.extBut b o (fun h => hb (by simp [h])) e, rfl, rfl, rfl, Nat.le_refl _⟩)) (mp_args_next _))))
  done := fun s Q E X hQ => by
    have hTy : s.TypeIs (.ref f) "map" := ⟨_, X.mp, rfl⟩
    have hv : items[ss.length]? = none := by rw [← hy.length, Array.length_toList]; exact Array.getElem?_eq_none (Nat.le_refl _)
    unfold pyNext
    refine wpAny_bind (wpAny_attempt (wpAny_callSpecial?_slot (name := Str.ofString "__next__") hTy mp_slot_next
      (wpAny_call_entry mp_slot_next hTy mp_entry_next (mp_end (by exact hh) X hv fun h' e hs he => ?_) (mp_args_next _))))
    obtain ⟨o, ho, hc⟩ := he
    refine wpAny_bind (wpAny_isInstance (T := "StopIteration") (b := true) ⟨o, ho, hc⟩ isSubtype_stop ?_)
    exact wpAny_pure (hQ _ ⟨fun b o hb e => hs b o (fun h => hb (by simp [h])) e, rfl, rfl, rfl, Nat.le_refl _⟩)
  self := fun i s Q E X hQ => by
    have hTy : s.TypeIs (.ref f) "map" := ⟨_, X.mp, rfl⟩
    refine wpAny_pyIter_slot hTy mp_slot_iter (wpAny_call_entry mp_slot_iter hTy mp_entry_iter ?_ (mp_args_iter _))
    show wpAny _ _ (ret (.ref f)) _ _ s
    exact wpAny_pure ⟨_, rfl, "map", _, hTy, mp_slot_next.lookup, hQ⟩
end
end

section
set_option maxRecDepth 100000
open PySem PySem.Spec PySem.Calls PyProof.Rows PyProof.V
section
variable {prog : Program} {w : World} {A : Around} {s : Shared} {R : Result → Shared → Prop} {T : String}
variable {I : Addr} {fp wr : List Addr} {G : Array GenState → Array GenState → Prop} {n : Nat} {P : Nat → Value → Prop} {St : Nat → Shared → Prop}
/-- the extend loop over a list that holds something already -/
theorem more_loop (W : WalksS prog w A.in1 I fp wr G n P St) (acc₀ : Array Value) (hn : acc₀.size + n ≤ sizeLine) (S : Addr) (hSf : S ∉ fp) (res : Value) :
    ∀ (k i : Nat) (s : Shared) (got : List Value) (c : Nat), n - i = k → i ≤ n → St i s → s.heap.get? S = some { cls := .type "list", dict := none, data := .seq (acc₀ ++ got.toArray) c, slots := #[] } → got.length = i → (∀ (j : Nat) v, got[j]? = some v → P j v) →
    (∀ (s' : Shared) (got' : List Value) c', Moved (S :: wr) G s s' → s'.heap.get? S = some { cls := .type "list", dict := none, data := .seq (acc₀ ++ got'.toArray) c', slots := #[] } → got'.length = n → (∀ (j : Nat) v, got'[j]? = some v → P j v) → R (.ok (.ret res)) s') →
    codeAny (model prog w) A (.builtin "list.extend.loop" ⟨[.ref S, .ref I, res], []⟩) R s := by
  have hSw : S ∉ wr := fun h => hSf (W.sub _ h)
  have hsub : ∀ b ∈ wr, b ∈ S :: wr := fun b hb => List.mem_cons_of_mem _ hb
  intro k
  induction k with
  | zero =>
    intro i s got c hk hi hst hS hl hg hR
    have hin : i = n := by omega
    subst hin
    refine codeAny_builtin PySem.F.entry_extend_loop ?_
    rw [Around.under_plainId PySem.F.plain_extend_loop _]
    show wpAny _ A.in1 (pyNext (.ref I) >>= _) _ _ s
    refine wpAny_bind (W.done s _ _ hst fun s' hm => ?_)
    exact wpAny_pure (hR s' got c (hm.mono hsub) (hm.heap S _ hSw hS) hl hg)
  | succ k ih =>
    intro i s got c hk hi hst hS hl hg hR
    have hlt : i < n := by omega
    refine codeAny_builtin PySem.F.entry_extend_loop ?_
    rw [Around.under_plainId PySem.F.plain_extend_loop _]
    show wpAny _ A.in1 (pyNext (.ref I) >>= _) _ _ s
    refine wpAny_bind (W.item i s _ _ hlt hst fun v s' hP hst' hm => ?_)
    have hS' := hm.heap S _ hSw hS
    show wpAny _ A.in1 (updateSeq S (·.push v) >>= _) _ _ _
    refine wpAny_bind ?_
    have e : (acc₀ ++ got.toArray).push v = acc₀ ++ (got ++ [v]).toArray := by simp
    have hnew := Heap.get?_update_self (Obj.mapSeq (·.push v)) hS' rfl
    refine wpAny_updateSeq hS' rfl (wpAny_pure ⟨plainId_quiet PySem.F.plain_extend_loop _, ih (i + 1) _ (got ++ [v]) _ (by omega) hlt (W.frame _ s' _ s'.toks hst' (Nat.le_refl _) fun b hb o e => ?_) (by rw [← e]; exact hnew) (by simp [hl]) ?_ fun s'' got' c' hm'' hS'' hl' hg' => ?_⟩)
      (by simp only [Array.size_append, List.size_toArray, hl]; omega) (by show ((acc₀ ++ got.toArray).push v).size ≤ sizeLine + 1; simp only [Array.size_push, Array.size_append, List.size_toArray, hl]; omega)
    · exact (Heap.get?_update_other _ _ (fun h : S = b => hSf (by rw [h]; exact hb))).trans e
    · intro j u hj
      rcases Nat.lt_trichotomy j got.length with h | h | h
      · exact hg j u (by rwa [List.getElem?_append_left h] at hj)
      · subst h; simp at hj; subst hj; rw [hl]; exact hP
      · rw [List.getElem?_eq_none (by rw [List.length_append, List.length_singleton]; omega)] at hj; cases hj
    · refine hR s'' got' c' (Moved.trans W.gtrans ((hm.mono hsub).then_heap (by first | exact Nat.le_refl _ | exact Nat.le_succ _ | omega) fun b o hb e => ?_) hm'') hS'' hl' hg'
      exact (Heap.get?_update_other _ _ (fun h : S = b => hb (by rw [h]; exact List.mem_cons_self))).trans e
end
end

section
set_option maxRecDepth 100000
open PySem PySem.Spec PySem.Calls PyProof.Rows PyProof.V
section
variable {prog : Program} {w : World} {A : Around} {s : Shared} {R : Result → Shared → Prop} {T : String}
variable {I : Addr} {fp wr : List Addr} {G : Array GenState → Array GenState → Prop} {n : Nat} {P : Nat → Value → Prop} {St : Nat → Shared → Prop}
theorem ext_more (Y : NoLen T) (W : WalksS prog w A.in1 I fp wr G n P St) (hT : ∀ i s, St i s → s.TypeIs (.ref I) T) (S : Addr) (res : Value) (acc₀ : Array Value) (c₀ : Nat) (hst : St 0 s) (hSf : S ∉ fp) (hI : I ∈ fp)
    (hS : s.heap.get? S = some { cls := .type "list", data := .seq acc₀ c₀ }) (hn : acc₀.size + n + 1 ≤ sizeLine)
    (hR : ∀ (s' : Shared) (got' : List Value) c', Moved (S :: wr) G s s' → s'.heap.get? S = some { cls := .type "list", dict := none, data := .seq (acc₀ ++ got'.toArray) c', slots := #[] } → got'.length = n → (∀ (j : Nat) v, got'[j]? = some v → P j v) → R (.ok (.ret res)) s') :
    wpAny (model prog w) A.in1 (Builtin.List.listExtendWith (.ref S) (.ref I) res)
      (fun fin s' => match fin with | .done f => R (.ok f) s' | .again c' => c'.quiet = true ∧ codeAny (model prog w) A c' R s') (fun e s' => R (.error e) s') s := by
  have hSI : S ≠ I := fun e => hSf (e ▸ hI)
  unfold Builtin.List.listExtendWith
  refine wpAny_bind (wpAny_typeOf (hT 0 _ hst) ?_)
  have h1 : Builtin.List.listSameRef (.ref S) (.ref I) = false := by simp [Builtin.List.listSameRef, hSI]
  have h2 := Y.notList
  have h3 := Y.notTuple
  simp only [h1, h2, h3, Bool.or_false, Bool.false_eq_true, if_false]
  refine wpAny_bind (W.self 0 _ _ _ hst ?_)
  refine wpAny_bind (wpAny_holding ?_)
  unfold Builtin.List.listLengthHint
  refine wpAny_bind (wpAny_specialOf (hT 0 _ hst) Y.len ?_)
  show wpAny _ A.in1 (specialOf (Value.ref I) (Str.ofString "__length_hint__") >>= _) _ _ _
  refine wpAny_bind (wpAny_specialOf (hT 0 _ hst) Y.hint ?_)
  refine wpAny_pure ?_
  show wpAny _ A.in1 (rule "list.extend.makes-room" >>= fun _ => Builtin.List.listTouch (.ref S) >>= fun _ =>
    again (.builtin "list.extend.loop" ⟨[.ref S, .ref I, res], []⟩)) _ _ _
  refine wpAny_bind (wpAny_rule ?_)
  refine wpAny_bind ?_
  show wpAny _ A.in1 (updateSeq S (·.push .none) >>= fun _ => updateSeq S (·.pop)) _ _ _
  refine wpAny_bind (wpAny_updateSeq hS rfl ?_ (by omega) (by show (acc₀.push Value.none).size ≤ sizeLine + 1; rw [Array.size_push]; omega))
  have hS₂ := Heap.get?_update_self (Obj.mapSeq (·.push Value.none)) hS rfl
  refine wpAny_updateSeq hS₂ rfl ?_ (by show (acc₀.push Value.none).size ≤ _; rw [Array.size_push]; omega) (by show ((acc₀.push Value.none).pop).size ≤ sizeLine + 1; rw [Array.size_pop, Array.size_push]; omega)
  have hS₃ := Heap.get?_update_self (Obj.mapSeq (·.pop)) hS₂ rfl
  have oth : ∀ b o, b ≠ S → s.heap.get? b = some o → ((s.heap.update S (Obj.mapSeq (·.push Value.none))).update S (Obj.mapSeq (·.pop))).get? b = some o :=
    fun b o hb e => (Heap.get?_update_other _ _ (Ne.symm hb)).trans ((Heap.get?_update_other _ _ (Ne.symm hb)).trans e)
  have e : (acc₀.push Value.none).pop = acc₀ ++ ([] : List Value).toArray := by simp
  refine wpAny_pure ⟨plainId_quiet PySem.F.plain_extend_loop _, more_loop W acc₀ (by omega) _ hSf _ n 0 _ [] _ rfl (Nat.zero_le _)
    (W.frame 0 s _ s.toks hst (Nat.le_refl _) fun b hb o e => oth b o (fun h => hSf (h ▸ hb)) e) (by rw [← e]; exact hS₃) rfl (fun j v h => by simp at h) fun s' got' c' hm hS' hl hg => ?_⟩
  exact hR s' got' c' (Moved.trans W.gtrans ((Moved.refl W.grefl).then_heap (Nat.le_refl _) fun b o hb e => oth b o (fun h => hb (h ▸ List.mem_cons_self)) e) hm) hS' hl hg
end
end

section
set_option maxRecDepth 100000
open PySem PySem.Spec PySem.Calls PyProof.Rows PyProof.V
section
variable {prog : Program} {w : World} {A : Around} {E : Value → Shared → Prop} {s : Shared} {T : String}
variable {I : Addr} {fp wr : List Addr} {G : Array GenState → Array GenState → Prop} {n : Nat} {P : Nat → Value → Prop} {St : Nat → Shared → Prop}
theorem ext_args (a b : Value) : argsOk "list.extend" ⟨[a, b], []⟩ := PySem.F.args_list_extend_2 a b
theorem ext_code {R : Result → Shared → Prop} (Y : NoLen T) (W : WalksS prog w A.in1 I fp wr G n P St) (hT : ∀ i s, St i s → s.TypeIs (.ref I) T) (S : Addr) (acc₀ : Array Value) (c₀ : Nat) (hst : St 0 s) (hSf : S ∉ fp) (hI : I ∈ fp)
    (hS : s.heap.get? S = some { cls := .type "list", data := .seq acc₀ c₀ }) (hn : acc₀.size + n + 1 ≤ sizeLine)
    (hR : ∀ (s' : Shared) (got' : List Value) c', Moved (S :: wr) G s s' → s'.heap.get? S = some { cls := .type "list", dict := none, data := .seq (acc₀ ++ got'.toArray) c', slots := #[] } → got'.length = n → (∀ (j : Nat) v, got'[j]? = some v → P j v) → R (.ok (.ret .none)) s') :
    codeAny (model prog w) A (.call (.builtin "list.extend") ⟨[.ref S, .ref I], []⟩) R s :=
  codeAny_call_builtin PySem.F.slot_list_extend.plain PySem.F.entry_list_extend (PySem.F.slot_list_extend.check _ _ _ _ _ _ _ _ ⟨_, hS, rfl⟩ (ext_args _ _) (ext_more Y W hT S .none acc₀ c₀ hst hSf hI hS hn hR))
end
section
variable {prog : Program} {w : World} {A : Around} {E : Value → Shared → Prop} {s : Shared} {h₀ : Heap} {L : Addr} {m : Str → Option Value} {news : List (Addr × Obj)}
theorem mp_N {l : Addr} {vs : List Value} {nn : Nat} {Q : Value → Shared → Prop} (F : Fr h₀ L s.heap m) (N : News h₀ L s.heap news) (hm : (l, listOf vs.toArray nn) ∈ news)
    (h : ∀ f T I h', Fr h₀ L h' m → News h₀ L h' ((f, mpObj T) :: (T, mpTup I) :: (I, itObj l) :: news) → (∀ p ∈ news, p.1 < I) → I < T → T < f → Q (.ref f) { s with heap := h' }) :
    wpAny (model prog w) A (call (.type "map") [.type "str", .ref l]) Q E s := by
  obtain ⟨F₁, N₁, l₁⟩ := news_push (o := itObj l) rfl F N
  obtain ⟨F₂, N₂, l₂⟩ := news_push (s := { s with heap := s.heap.push (itObj l) }) (o := mpTup s.heap.objs.size) rfl F₁ N₁
  obtain ⟨F₃, N₃, l₃⟩ := news_push (s := { s with heap := (s.heap.push (itObj l)).push (mpTup s.heap.objs.size) }) (o := mpObj (s.heap.push (itObj l)).objs.size) rfl F₂ N₂
  exact mp_new (xs := vs.toArray) ⟨_, (N _ hm).1, rfl, nn, rfl⟩ (h _ _ _ _ F₃ N₃ l₁ (l₂ _ (.head _)) (l₃ _ (.head _)))
end
end

section
set_option maxRecDepth 100000
open PySem PySem.Spec PySem.Calls PyProof.Rows PyProof.V
section
variable {prog : Program} {w : World} {A : Around} {E : Value → Shared → Prop} {s : Shared} {h₀ : Heap} {L : Addr} {m : Str → Option Value}
theorem mx_N {f T I l S : Addr} {nn n : Nat} {vs zs : List Value} {ss : List Str} {rest : List (Addr × Obj)} {Q : Value → Shared → Prop} (hh : A.handled = none) (F : Fr h₀ L s.heap m)
    (N : News h₀ L s.heap ((f, mpObj T) :: (T, mpTup I) :: (I, itObj l) :: (S, listOf zs.toArray n) :: rest)) (hm : (l, listOf vs.toArray nn) ∈ rest) (hy : StrsAre vs ss) (hz : zs.length ≤ 100) (h63 : ss.length ≤ 63)
    (hSr : ∀ p ∈ rest, p.1 ≠ S) (hrI : ∀ p ∈ (S, listOf zs.toArray n) :: rest, p.1 < I) (hIT : I < T) (hTf : T < f)
    (h : ∀ h' tk cc got, Fr h₀ L h' m → News h₀ L h' ((S, listOf (zs ++ got).toArray cc) :: rest) → StrsAre got ss → Q .none { s with heap := h', toks := tk }) :
    wpAny (model prog w) A (call (.builtin "list.extend") [.ref S, .ref f]) Q E s := by
  have hlI : l < I := hrI _ (.tail _ hm)
  have hSI : S < I := hrI _ (.head _)
  have n1 : f ≠ I := Nat.ne_of_gt (Nat.lt_trans hIT hTf)
  have n2 : T ≠ I := Nat.ne_of_gt hIT
  have n4 : l ≠ I := Nat.ne_of_lt hlI
  have g1 := N _ (.head _)
  have g2 := N _ (.tail _ (.head _))
  have g3 := N _ (.tail _ (.tail _ (.head _)))
  have g4 := N _ (.tail _ (.tail _ (.tail _ (.head _))))
  have g5 := N _ (.tail _ (.tail _ (.tail _ (.tail _ hm))))
  have hst : MpAt f T I l vs.toArray 0 s.heap := ⟨g1.1, g2.1, ⟨_, g3.1, rfl, rfl⟩, ⟨_, g5.1, rfl, nn, rfl⟩⟩
  refine wpAny_call (ext_code (St := fun i s => MpAt f T I l vs.toArray i s.heap) mp_noLen (mp_walks (A := A.in1) (items := vs.toArray) (by simp [hh]) hy n1 n2 n4) (fun i s' q => ⟨_, q.mp, rfl⟩) S zs.toArray n hst ?_ (by simp) g4.1 ?_ fun s' got c' hmv hS' hgl hgv => ?_)
  · simp only [List.mem_cons, List.not_mem_nil, or_false, not_or]
    exact ⟨Nat.ne_of_lt (Nat.lt_trans hSI (Nat.lt_trans hIT hTf)), Nat.ne_of_lt (Nat.lt_trans hSI hIT), Nat.ne_of_lt hSI, fun e => hSr _ hm e.symm⟩
  · rw [sizeLine_eq, List.size_toArray]; omega
  · have hkeep : ∀ b' o', b' ≠ I → b' ≠ S → s.heap.get? b' = some o' → s'.heap.get? b' = some o' := fun b' o' hb hb2 e =>
      hmv.heap b' o' (by simp only [List.mem_cons, List.not_mem_nil, or_false, not_or]; exact ⟨hb2, hb⟩) e
    have eq : s' = { s with heap := s'.heap, toks := s'.toks } := (Moved.eq_with hmv : _)
    show Q .none s'
    rw [eq]
    have e : zs.toArray ++ got.toArray = (zs ++ got).toArray := by simp
    refine h _ _ c' got ⟨F.ns.at' fun o' e => hkeep L o' (fun e' => g3.2.1 e'.symm) (fun e' => g4.2.1 e'.symm) e, fun b' o' e => hkeep b' o' (fun e' => ?_) (fun e' => ?_) (F.keep b' o' e), F.above⟩ (fun p hp => ?_) ?_
    · rw [e', g3.2.2] at e; cases e
    · rw [e', g4.2.2] at e; cases e
    · rcases List.mem_cons.mp hp with rfl | hp
      · exact ⟨by rw [← e]; exact hS', g4.2⟩
      · have gp := N p (.tail _ (.tail _ (.tail _ (.tail _ hp))))
        exact ⟨hkeep _ _ (Nat.ne_of_lt (hrI p (.tail _ hp))) (hSr p hp) gp.1, gp.2.1, gp.2.2⟩
    · refine all2_idx hgl fun i a hi => ?_
      obtain ⟨y, t, hy', e⟩ := hgv i a hi
      exact ⟨y, hy', t, e⟩
end
end

section
set_option maxRecDepth 100000
open PySem PySem.Spec PySem.Calls PyProof.Rows PyProof.V
local macro_rules | `(tactic| k_all) => `(tactic| first | exact List.forall_mem_nil _ | (refine' List.forall_mem_cons.mpr ⟨?a, ?b⟩; (case a => k_ne); (case b => k_all)) | assumption | ((repeat (rename _ ∧ _ => hX; obtain ⟨hX1, hX2⟩ := hX)); first | exact allLt_ne (by assumption) (by omega) | exact raw_ne (by assumption) (by omega) | exact allGe_ne (by assumption) (by omega) | (refine forall_app ?a ?b; (case a => k_all); (case b => k_all)) | (rename AllLt _ _ => hY; clear hY; k_all) | (rename AllGe _ _ => hY; clear hY; k_all)))
local macro_rules | `(tactic| k_mem) => `(tactic| first | assumption | exact List.mem_cons_self | (refine' List.mem_cons_of_mem _ ?_; k_mem))
local macro_rules | `(tactic| walk_at "pad0") => `(tactic| fail)
local macro_rules | `(tactic| walk_at "pad1") => `(tactic| fail)
local macro_rules | `(tactic| walk_at "pad2") => `(tactic| fail)
local macro_rules | `(tactic| walk_at "call builtin:str.join") => `(tactic| refine stop_here ?_)
local macro_rules | `(tactic| walk_at "call type:map") => `(tactic| refine stop_here ?_)
local macro_rules | `(tactic| walk_at "call builtin:list.extend") => `(tactic| refine stop_here ?_)
local macro_rules | `(tactic| walk_at "pyIter ref") => `(tactic| ((with_reducible show wpAny _ _ (pyIter (Value.ref _)) (fun it s₂ => LoopAtV _ _ _ _ _ _ _ _ _ it s₂) _ _); refine stop_here ?_))
local macro_rules | `(tactic| walk_at "truthy ref") => `(tactic| (k_here; k_dflt (refine lst_truthy (by k_asm) (by k_mem) (by assumption) (by assumption) ?_)))
local macro_rules | `(tactic| walk_at "call builtin:list.append") => `(tactic| (k_here; (with_reducible show wpAny _ _ (call (Value.builtin _) [Value.ref _, _]) _ _ _); k_dflt (refine' append_K ?k1 ?k2 ?k3 ?_ ?z; (case k1 => k_asm); (case k2 => k_asm); (case k3 => k_upd); (case z => first | (rw [sizeLine_eq]; simp only [List.size_toArray]; omega) | size_fits); k_whole); intro h' F' N'; (try k_sweep)))

set_option maxHeartbeats 1000000 in
theorem str_call {p : Program} {loose : List Str} {mean : ExcName → Option Value} {mg mb : Str → Option Value} {w : World}
   (dp un : Nat) (gd : Option (List Code)) (cn : Str) (cs : Scope) (a : Addr) (ccd : Value) (cl : List (Str × Addr)) (outer : List Env) (A₀ : Around) (base h₀ : Heap) (L : Addr) (m : Str → Option Value) (s : Shared) (Q E : Value → Shared → Prop) (news : List (Addr × Obj)) (e ua ll : Addr) (dl : Value) (as ds : List Value) (gs ss : List Str)
    (B : Below A₀ base outer h₀) (F : Fr h₀ L s.heap m) (X : (Mine.hd.heap_39 w.params).In h₀) (N : News h₀ L s.heap news) (T : Top p loose mean mg mb h₀) (C : CodeHd base 69 65) (hk : cs.kind = .function)
    (he : EntAt news e ua ll dl) (hl : ListAt news ua as) (hd : ListAt news ll ds) (hA : StrsAre as gs) (hD : StrsAre ds ss) (h63 : gs.length ≤ 63) (h4 : ss.length ≤ 63) (hdl : dl = .none ∨ ∃ t, dl = .int 3 t)
    (hdp : dp + 40 < recursionLimit) (hun : un + 400 < cLine)
    (hg100 : ∀ g ∈ gs, g.length ≤ 100)
    (hs100 : ∀ y ∈ ss, y.length ≤ 100)
    (hret : ∀ t h' tk', Fr h₀ L h' m → News h₀ L h' news → Q (.str (toldText gs dl ss) t) { s with heap := h', toks := tk' }) :
    wpAny (model PySem.Challenge.pw_wy0073_01 w) (ktrTop dp un gd cn cs L a ccd cl outer) (call (.ref 35) [.ref e]) Q E s := by
  obtain ⟨de, a1, b1, a2, b2, a3, b3, a4, b4, he1, he2⟩ := he
  obtain ⟨nl, hl⟩ := hl
  obtain ⟨nd, hd⟩ := hd
  refine wpAny_call ?_
  k_enter
  k_steps
  · rename News _ _ _ _ => kN
    rename gs.isEmpty = true => hge
    have e : toldText gs dl ss = "" := by unfold toldText; rw [hge]; rfl
    rw [← e]
    exact hret _ _ _ (by k_asm) (sub_news kN fun p hp => by simp [hp])
  refine stop_out ?_
  rename News _ _ _ _ => NN
  rename Fr _ _ _ _ => FF
  refine say_loop rfl FF NN (by k_mem) hA ?_ ?_
  · clear FF NN
    intro i g t zs n I oI h tk hg hlen hz n1 hI FF NN
    have hl100 := hg100 g (List.mem_of_getElem? hg)
    have hi63 := (List.getElem?_eq_some_iff.mp hg).1
    k_steps
    rename News _ _ _ _ => NN
    rename Fr _ _ _ _ => FF
    exact say_next hg hz (by unfold sayAg; rfl) n1 hI FF NN (by intro z z1; simp [z1])
  · clear FF NN
    intro u zs n h tk hz FF NN
    have hzl : zs.length = gs.length := by rw [hz.length, List.length_map]
    rcases hdl with rfl | ⟨td, rfl⟩
    all_goals k_steps
    · refine stop_out ?_
      rename News _ _ _ _ => NN
      rename ss.isEmpty = true => hse
      rename gs.isEmpty = false => hge
      refine join_N (ys := toldRows gs .none ss) NN (by k_mem) rfl ?_ (told_len hg100 hs100) (told_count h63 h4) ?_
      · simp only [toldRows, dlLines, hse, if_true, List.append_nil, Array.toList_push]
        exact hz.append (.cons ⟨_, rfl⟩ .nil)
      · intro t' k
        k_steps
        rename News _ _ _ _ => kN
        rw [← told_text hge]
        exact hret _ _ _ (by k_asm) (sub_news kN fun p hp => by simp [hp])
    · rename ss.isEmpty = false => hse
      rename gs.isEmpty = false => hge
      refine stop_out ?_
      rename News _ _ _ _ => NN
      rename Fr _ _ _ _ => FF
      refine mp_N FF NN (by k_mem) ?_
      clear FF NN
      intro f T I h' F₂ N₂ l1 l2 l3
      k_steps
      refine stop_out ?_
      rename News _ _ _ _ => NN
      rename Fr _ _ _ _ => FF
      refine mx_N rfl FF NN hd hD (by omega) h4 (by k_all) l1 l2 l3 ?_
      clear FF NN
      intro h' tk cc got FF NN hgot
      k_steps
      refine stop_out ?_
      rename News _ _ _ _ => NN
      refine join_N (ys := toldRows gs .none ss) NN (by k_mem) rfl ?_ (told_len hg100 hs100) (told_count h63 h4) ?_
      · simp only [toldRows, dlLines, hse, Bool.false_eq_true, if_false, List.append_nil]
        exact hz.append hgot
      · intro t' k
        k_steps
        rename News _ _ _ _ => kN
        rw [← told_text hge]
        exact hret _ _ _ (by k_asm) (sub_news kN fun p hp => by simp [hp])
    · refine stop_out ?_
      rename News _ _ _ _ => NN
      rename ss.isEmpty = true => hse
      rename gs.isEmpty = false => hge
      refine join_N (ys := toldRows gs (.int 3 td) ss) NN (by k_mem) rfl ?_ (told_len hg100 hs100) (told_count h63 h4) ?_
      · simp only [toldRows, dlLines, hse, if_true, Array.toList_push]
        exact (hz.append (.cons ⟨_, rfl⟩ .nil)).append (.cons ⟨_, rfl⟩ .nil)
      · intro t' k
        k_steps
        rename News _ _ _ _ => kN
        rw [← told_text hge]
        exact hret _ _ _ (by k_asm) (sub_news kN fun p hp => by simp [hp])
    · rename ss.isEmpty = false => hse
      rename gs.isEmpty = false => hge
      refine stop_out ?_
      rename News _ _ _ _ => NN
      rename Fr _ _ _ _ => FF
      simp only [List.push_toArray] at NN
      refine mp_N FF NN (by k_mem) ?_
      clear FF NN
      intro f T I h' F₂ N₂ l1 l2 l3
      k_steps
      refine stop_out ?_
      rename News _ _ _ _ => NN
      rename Fr _ _ _ _ => FF
      refine mx_N rfl FF NN hd hD (by rw [List.length_append, hzl]; simp only [List.length_cons, List.length_nil]; omega) h4 (by k_all) l1 l2 l3 ?_
      clear FF NN
      intro h' tk cc got FF NN hgot
      k_steps
      refine stop_out ?_
      rename News _ _ _ _ => NN
      refine join_N (ys := toldRows gs (.int 3 td) ss) NN (by k_mem) rfl ?_ (told_len hg100 hs100) (told_count h63 h4) ?_
      · simp only [toldRows, dlLines, hse, Bool.false_eq_true, if_false]
        exact (hz.append (.cons ⟨_, rfl⟩ .nil)).append hgot
      · intro t' k
        k_steps
        rename News _ _ _ _ => kN
        rw [← told_text hge]
        exact hret _ _ _ (by k_asm) (sub_news kN fun p hp => by simp [hp])
end

section
set_option maxRecDepth 100000
open PySem PySem.Spec PySem.Calls PyProof.Rows PyProof.V
/-! ## the told entry's rows -/
theorem ok_text (s : String) : PyData.strOk (Str.ofString s) = true := by
  show (Str.ofString s).cps.all _ = true
  rw [← Array.all_toList, signs_ofString, List.all_map]
  refine List.all_eq_true.mpr fun c _ => ?_
  have h := c.valid
  simp only [Function.comp, decide_eq_true_eq]
  show c.val.toNat < 0x110000
  rcases h with h | h
  · exact Nat.lt_trans h (by decide)
  · exact h.2
theorem ok_app {x y : Str} (hx : PyData.strOk x = true) (hy : PyData.strOk y = true) : PyData.strOk (x ++ y) = true := by
  show (x ++ y).cps.all _ = true
  rw [Str.cps_append, Array.all_append]
  have hx : x.cps.all (· < 0x110000) = true := hx
  have hy : y.cps.all (· < 0x110000) = true := hy
  rw [hx, hy]; rfl
def disText (n : Int) : Str := "Disallow: /" ++ Str.ofString (toString (Int.fmod n 1000))
theorem dis_ok (ns : List Int) : StrOks (ns.map disText) := by
  intro g hg
  obtain ⟨n, _, rfl⟩ := List.mem_map.mp hg
  exact ok_app (ok_text "Disallow: /") (ok_text _)
theorem dis_len (ns : List Int) : ∀ y ∈ ns.map disText, y.length ≤ 100 := by
  intro g hg
  obtain ⟨n, _, rfl⟩ := List.mem_map.mp hg
  have e1 : Str.length ("Disallow: /" : Str) = 11 := by decide +kernel
  unfold disText
  have h0 : 0 ≤ Int.fmod n 1000 := Int.fmod_nonneg_of_pos _ (by decide)
  have h1 : Int.fmod n 1000 < 1000 := Int.fmod_lt_of_pos _ (by decide)
  have h2 := KT.len_num (n := Int.fmod n 1000) h0 (by omega)
  rw [Str.length_append, e1]; omega
theorem ints_at {ws : List Value} {ns : List Int} (x : IntsAre ws ns) : ∀ {i : Nat} {v : Value}, ws[i]? = some v → ∃ n t, ns[i]? = some n ∧ v = .int n t := by
  induction x with
  | nil => intro i v h; cases h
  | cons a b r ih =>
    intro i v h
    cases i with
    | zero => cases h; exact ⟨_, _, rfl, rfl⟩
    | succ i => exact ih h
theorem dis_next {zs : List Value} {ns : List Int} {i : Nat} {n : Int} {t : Tok} (hJ : StrsAre zs ((ns.take i).map disText)) (hn : ns[i]? = some n) : StrsAre (zs ++ [.str ("Disallow: /" ++ Str.ofString (toString (Int.fmod n 1000))) t]) ((ns.take (i + 1)).map disText) := by
  rw [take_snoc hn, List.map_append]
  exact hJ.append (.cons ⟨t, rfl⟩ .nil)
theorem sayl_next {zs : List Value} {gs : List Str} {i : Nat} {g : Str} {t : Tok} (hJ : StrsAre zs ((gs.take i).map sayAg)) (hn : gs[i]? = some g) : StrsAre (zs ++ [.str ("User-agent: " ++ g) t]) ((gs.take (i + 1)).map sayAg) := by
  rw [take_snoc hn, List.map_append]
  exact hJ.append (.cons ⟨t, rfl⟩ .nil)
theorem as_state {M : Model} {A : Around} {E : Value → Shared → Prop} {s s' : Shared} {x : Sem Value} {Q : Value → Shared → Prop} (e : s = s') (h : wpAny M A x Q E s') : wpAny M A x Q E s := e ▸ h
theorem rows_all0 {zs : List Value} {gs ss : List Str} (h : StrsAre zs (gs.map sayAg)) (e : ss = []) (t : Tok) : StrsAre ((zs ++ []) ++ [.str "Allow:" t]) (toldRows gs .none ss) := by
  subst e
  rw [List.append_nil]
  unfold toldRows
  simp only [dlLines, List.append_nil, List.isEmpty_nil, if_true]
  exact h.append (.cons ⟨t, rfl⟩ .nil)
theorem rows_all1 {zs ds : List Value} {gs ss : List Str} (h : StrsAre zs (gs.map sayAg)) (hd : StrsAre ds ss) (e : ¬ ss = []) : StrsAre ((zs ++ []) ++ ds) (toldRows gs .none ss) := by
  have e : ss.isEmpty = false := by cases ss with
    | nil => exact absurd rfl e
    | cons => rfl
  rw [List.append_nil]
  unfold toldRows
  simp only [dlLines, List.append_nil, e, Bool.false_eq_true, if_false]
  exact h.append hd
theorem rows_all2 {zs : List Value} {gs ss : List Str} {td tt : Tok} (h : StrsAre zs (gs.map sayAg)) (e : ss = []) (t : Tok) : StrsAre ((zs ++ [.str "Crawl-delay: 3" tt]) ++ [.str "Allow:" t]) (toldRows gs (.int 3 td) ss) := by
  subst e
  unfold toldRows
  simp only [dlLines, List.isEmpty_nil, if_true]
  exact (h.append (.cons ⟨tt, rfl⟩ .nil)).append (.cons ⟨t, rfl⟩ .nil)
theorem rows_all3 {zs ds : List Value} {gs ss : List Str} {td tt : Tok} (h : StrsAre zs (gs.map sayAg)) (hd : StrsAre ds ss) (e : ¬ ss = []) : StrsAre ((zs ++ [.str "Crawl-delay: 3" tt]) ++ ds) (toldRows gs (.int 3 td) ss) := by
  have e : ss.isEmpty = false := by cases ss with
    | nil => exact absurd rfl e
    | cons => rfl
  unfold toldRows
  simp only [dlLines, e, Bool.false_eq_true, if_false]
  exact (h.append (.cons ⟨tt, rfl⟩ .nil)).append hd
theorem add_rows {prog : Program} {w : World} {A : Around} {E : Value → Shared → Prop} {s : Shared} {h₀ : Heap} {L a b : Addr} {m : Str → Option Value} {news : List (Addr × Obj)} {xs ys : List Value} {n1 n2 : Nat} {rows : List Str} {Q : Value → Shared → Prop}
    (F : Fr h₀ L s.heap m) (N : News h₀ L s.heap news) (ha : (a, listOf xs.toArray n1) ∈ news) (hb : (b, listOf ys.toArray n2) ∈ news) (hZ : StrsAre (xs ++ ys) rows) (hsz : rows.length ≤ 300)
    (h : ∀ D zs h', StrsAre zs rows → Fr h₀ L h' m → News h₀ L h' ((D, listOf zs.toArray 0) :: news) → (∀ p ∈ news, p.1 < D) → Q (.ref D) { s with heap := h' }) :
    wpAny (model prog w) A (binaryOp .Add (.ref a) (.ref b)) Q E s :=
  kmk_add_lit (zs := xs ++ ys) F N (is_lst N ha) (is_lst N hb) rfl (fun D h' F' N' l => h D _ h' hZ F' N' l) (by
    have := hZ.length
    rw [List.length_append] at this
    rw [sizeLine_eq]; show xs.length + ys.length ≤ _; omega)
theorem emp_of {α : Type} {l : List α} (h : ¬ l = []) : l.isEmpty = false := by
  cases l with
  | nil => exact absurd rfl h
  | cons => rfl
theorem told_empty {gs ss : List Str} {dl : Value} (h : gs = []) : toldText gs dl ss = "" := by subst h; rfl
theorem add_vals {prog : Program} {w : World} {A : Around} {E : Value → Shared → Prop} {s : Shared} {h₀ : Heap} {L a b : Addr} {m : Str → Option Value} {news : List (Addr × Obj)} {xs ys : List Value} {n1 n2 : Nat} {Q : Value → Shared → Prop}
    (F : Fr h₀ L s.heap m) (N : News h₀ L s.heap news) (ha : (a, listOf xs.toArray n1) ∈ news) (hb : (b, listOf ys.toArray n2) ∈ news) (hsz : xs.length + ys.length ≤ 300)
    (h : ∀ D h', Fr h₀ L h' m → News h₀ L h' ((D, listOf (xs ++ ys).toArray 0) :: news) → (∀ p ∈ news, p.1 < D) → Q (.ref D) { s with heap := h' }) :
    wpAny (model prog w) A (binaryOp .Add (.ref a) (.ref b)) Q E s :=
  kmk_add_lit (zs := xs ++ ys) F N (is_lst N ha) (is_lst N hb) rfl h (by rw [sizeLine_eq]; show xs.length + ys.length ≤ _; omega)
end

section
set_option maxRecDepth 100000
open PySem PySem.Spec PySem.Calls PyProof.Rows PyProof.V
local macro_rules | `(tactic| k_all) => `(tactic| first | exact List.forall_mem_nil _ | (refine' List.forall_mem_cons.mpr ⟨?a, ?b⟩; (case a => k_ne); (case b => k_all)) | assumption | ((repeat (rename _ ∧ _ => hX; obtain ⟨hX1, hX2⟩ := hX)); first | exact allLt_ne (by assumption) (by omega) | exact raw_ne (by assumption) (by omega) | exact allGe_ne (by assumption) (by omega) | (refine forall_app ?a ?b; (case a => k_all); (case b => k_all)) | (rename AllLt _ _ => hY; clear hY; k_all) | (rename AllGe _ _ => hY; clear hY; k_all)))
local macro_rules | `(tactic| k_mem) => `(tactic| first | assumption | exact List.mem_cons_self | (refine' List.mem_cons_of_mem _ ?_; k_mem))
local macro_rules | `(tactic| walk_at "call ref") => `(tactic| ((with_reducible show wpAny _ _ (call (Value.ref _) _) _ _ _); (fail_if_success (with_reducible show wpAny _ _ (call (Value.ref 52) _) _ _ _)); refine stop_here ?_))
local macro_rules | `(tactic| walk_at "CompSrcT") => `(tactic| refine stop_here ?_)
local macro_rules | `(tactic| walk_at "CompSrc") => `(tactic| refine stop_here ?_)
local macro_rules | `(tactic| walk_at "eval ListComp") => `(tactic| (k_here; (with_reducible show wpAny _ _ (eval (Expr.ListComp _ [⟨Expr.Name _ _, _, [], _⟩] _ _) _) _ _ _); k_dflt (refine LCg.ListComp_U (F₀ := by k_asm) (by with_unfolding_all rfl) (by decide) (by rfl) (by decide) (by rfl) ?_)))
local macro_rules | `(tactic| walk_at "eval ListComp") => `(tactic| (k_here; (with_reducible show wpAny _ _ (eval (Expr.ListComp _ [⟨Expr.Name _ _, _, [_], _⟩] _ _) _) _ _ _); k_dflt (refine LCt.ListComp_T (F₀ := by k_asm) (by with_unfolding_all rfl) (by decide) (by rfl) (by decide) (by rfl) ?_)))
local macro_rules | `(tactic| walk_at "exec Assign cons ListComp") => `(tactic| (k_here; with_reducible refine plainObj_wpAny_Assign_Attribute ?_ ?_; rotate_left; kernel_rfl))
local macro_rules | `(tactic| walk_at "binaryOp Add ref ref") => `(tactic| refine stop_here ?_)
local macro_rules | `(tactic| walk_at "call builtin:str.join") => `(tactic| refine stop_here ?_)
local macro_rules | `(tactic| walk_at "compareOp Eq str str") => `(tactic| ((rename Kept (True ∧ True) => hK); clear hK; refine stop_here ?_))
local macro_rules | `(tactic| walk_at "callWith ref") => `(tactic| (k_here; k_dflt (first
  | (refine' callWith_K ?k1 ?k2 ?_; (case k1 => k_asm); (case k2 => k_is); k_whole)
  | (refine' callWith_M0 ?k1 ?k2 ?_; (case k1 => k_meth); (case k2 => k_is); k_whole; try dsimp only [List.nil_append, List.cons_append]))))
local macro_rules | `(tactic| walk_at "pyIter ref") => `(tactic| ((with_reducible show wpAny _ _ (pyIter (Value.ref _)) (fun it s₂ => LoopAtV _ _ _ _ _ _ _ _ _ it s₂) _ _); refine stop_here ?_))
local macro_rules | `(tactic| walk_at "eval IfExp") => `(tactic| ((rename Kept True => hK); clear hK; refine stop_here ?_))
local macro_rules | `(tactic| walk_at "pyIter ref") => `(tactic| ((with_reducible show wpAny _ _ (pyIter (Value.ref _)) (fun it s₂ => TurnsAt _ _ _ _ _ _ _ _ _ it s₂) _ _); refine stop_here ?_))
local macro_rules | `(tactic| walk_at "compareOp NotEq ref ref") => `(tactic| (k_here; (with_reducible show wpAny _ _ (compareOp CmpOp.NotEq (Value.ref _) (Value.ref _)) _ _ _); k_dflt (refine st_ne_strs (is_lst (by k_asm) (by k_mem)) (is_lst (by k_asm) (by k_mem)) (by first | exact All2.nil | assumption) (by first | exact All2.nil | assumption) (by first | exact strOks_nil | assumption) (by first | exact strOks_nil | assumption) (by ke_room) ?_)))
local macro_rules | `(tactic| walk_at "compareOp Eq ref ref") => `(tactic| (k_here; (with_reducible show wpAny _ _ (compareOp CmpOp.Eq (Value.ref _) (Value.ref _)) _ _ _); k_dflt (refine st_eq_strs (is_lst (by k_asm) (by k_mem)) (is_lst (by k_asm) (by k_mem)) (by first | exact All2.nil | assumption) (by first | exact All2.nil | assumption) (by first | exact strOks_nil | assumption) (by first | exact strOks_nil | assumption) (by ke_room) ?_)))
local macro_rules | `(tactic| walk_at "compareOp In") => `(tactic| (k_here; (with_reducible show wpAny _ _ (compareOp CmpOp.In (Value.str _ _) (Value.ref _)) _ _ _); k_dflt (refine in_news (by k_asm) (by k_mem) (by assumption) ?_)))
local macro_rules | `(tactic| walk_at "compareOp NotEq ref ref") => `(tactic| (k_here; (with_reducible show wpAny _ _ (compareOp CmpOp.NotEq (Value.ref _) (Value.ref _)) _ _ _); k_dflt (first
  | refine st_ne_self (is_lst (by k_asm) (by k_mem)) (is_lst (by k_asm) (by k_mem)) (by assumption) (by assumption) (by assumption) (by ke_room) ?_
  | refine ne_same (is_lst (by k_asm) (by k_mem)) (is_lst (by k_asm) (by k_mem)) (by ke_room) ?_)))

set_option maxHeartbeats 40000000 in
def cut0 : (R₁ : Prop) ×' (R₂ : Prop) ×' (PLift R₁ → PLift R₂ → PySem.Challenge.rw_wy0073_01.Holds) := ⟨_, _, fun k₁ k₂ => Mine.hd (by
  k_go0
  all_goals try k_fold
  rename IntsAre _ _ => hints
  rename ¬ _ < _ => h63'
  rename List Int => ns
  rename World => W
  have h63 : ns.length ≤ 63 := by omega
  clear h63'
  k_steps
  refine stop_out ?_
  rename IsRange _ _ _ _ _ _ _ _ => hR
  rename News _ _ _ _ => NN
  rename Fr _ _ _ _ => FF
  refine LCt.CompSrcT.range (n := ns.length) (by rfl) FF NN hR (range_small h63) (range_len _) (by rw [sizeLine_eq]; omega) ?_
  clear hR FF NN
  intro g
  refine restT (fun i ys => All2 IsInt ys (picked 0 ns i)) trivial ?_ ?_ _ 0 [] (Nat.zero_add _) .nil
  · intro i v ys I oI C oC D m₂ h tk E' hi hP hJ hC hx FF NN off ne
    obtain ⟨t, rfl⟩ := hP
    exact by
     k_steps
     · exact ⟨_, _, rfl, by k_asm, by k_asm, pick_yes hJ (by simp_all [par])⟩
     · exact ⟨_, _, rfl, by k_asm, by k_asm, pick_no hJ (by simp_all [par])⟩
  intro ys₁ hJ₁
  have hI₁ := ints_of hJ₁
  clear hJ₁
  intro D₁ h tk FF NN off₁
  simp only [PyProof.Rows.LCg.Off1] at off₁
  exact by
   k_steps
   refine stop_out ?_
   rename Below _ _ _ _ => BB
   rename Top _ _ _ _ _ _ => TT
   rename Frag.In _ _ => XX
   rename 65 < _ => l65
   have ne65 : D₁ ≠ 65 := fun e => off₁.2.2.1 e.symm
   refine entry_core _ _ _ _ _ _ _ _ _ _ _ _ _ _ _ _ _ [] _ _ _ _ tabSt_nil _ _ _ BB FF XX (rot4 NN) TT codeHd rfl (show (D₁, PyProof.Rows.LCg.lst ys₁) ∈ _ from List.mem_cons_self) hI₁ (Nat.le_trans (picked_le _ _ _) h63) ?_ (by ktr_room) (by ktr_units) ?_
   · intro q hq
     simp only [List.mem_cons, List.not_mem_nil, or_false] at hq
     rcases hq with rfl | rfl | rfl
     · exact ne65
     · exact Nat.ne_of_gt (Nat.lt_succ_of_lt (Nat.lt_succ_of_lt l65))
     · exact Nat.ne_of_gt (Nat.lt_succ_of_lt l65)
   clear FF NN off₁ ne65
   intro t₁ e₁ rl₁ ua₁ ll₁ rs₁ ts₁ as₁ tl₁ ps₁ c₁ h tk FF NN lA lB hS₁ hT₁ hE₁ hU₁ hL₁ hX₁ hA₁ hR₁
   obtain ⟨kT₁, hT₁⟩ := hT₁
   have NN := drop2 NN
   simp only [List.nil_append] at NN hS₁ hR₁
   simp only [AllLt] at lA
   obtain ⟨lA1, lA2, lA3, lA4, _⟩ := lA
   exact by
    k_steps
    refine stop_out ?_
    rename IsRange _ _ _ _ _ _ _ _ => hR
    rename News _ _ _ _ => NN
    rename Fr _ _ _ _ => FF
    refine LCt.CompSrcT.range (n := ns.length) (by rfl) FF NN hR (range_small h63) (range_len _) (by rw [sizeLine_eq]; omega) ?_
    clear hR FF NN
    intro g
    refine restT (fun i ys => All2 IsInt ys (picked 1 ns i)) trivial ?_ ?_ _ 0 [] (Nat.zero_add _) .nil
    · intro i v ys I oI C oC D m₂ h tk E' hi hP hJ hC hx FF NN off ne
      obtain ⟨t, rfl⟩ := hP
      exact by
       k_steps
       · exact ⟨_, _, rfl, by k_asm, by k_asm, pick_yes hJ (by simp_all [par])⟩
       · exact ⟨_, _, rfl, by k_asm, by k_asm, pick_no hJ (by simp_all [par])⟩
    intro ys₂ hJ₂
    have hI₂ := ints_of hJ₂
    clear hJ₂
    intro D₂ h tk FF NN off₂
    simp only [PyProof.Rows.LCg.Off1] at off₂
    have mark : Kept True := ⟨trivial⟩
    exact by
     k_steps
     refine stop_out ?_
     refine by_value DlOk ?_ (fun dl₂ tk' hdl₂ => ?_)
     · k_steps
       · exact .inr ⟨_, rfl⟩
       · exact .inl rfl
     exact by
      k_steps
      refine stop_out ?_
      have lc₁ : ∀ q ∈ tl₁, @LE.le Nat _ c₁ q.1 := lB
      have ne65 : D₂ ≠ 65 := fun e => off₂.1 e.symm
      refine entry_core _ _ _ _ _ _ _ _ _ _ _ _ _ _ _ _ _ tl₁ _ _ _ _ hS₁ _ _ _ BB FF XX (rot2 NN) TT codeHd rfl (show (D₂, PyProof.Rows.LCg.lst ys₂) ∈ _ from List.mem_cons_self) hI₂ (Nat.le_trans (picked_le _ _ _) h63) ?_ (by ktr_room) (by ktr_units) ?_
      · intro q hq
        simp only [List.mem_cons] at hq
        rcases hq with rfl | rfl | rfl | hq
        · exact ne65
        · exact Nat.ne_of_gt (Nat.lt_succ_of_lt (Nat.lt_succ_of_lt l65))
        · exact Nat.ne_of_gt (Nat.lt_succ_of_lt l65)
        · exact Nat.ne_of_gt (Nat.lt_of_lt_of_le lA1 (lc₁ q hq))
      clear FF NN off₂ ne65
      intro t₂ e₂ rl₂ ua₂ ll₂ rs₂ ts₂ as₂ tl₂ ps₂ c₂ h tk FF NN lC lD hS₂ hT₂ hE₂ hU₂ hL₂ hX₂ hA₂ hR₂
      obtain ⟨kT₂, hT₂⟩ := hT₂
      have NN := drop2 NN
      simp only [AllLt] at lC
      obtain ⟨lC1, lC2, lC3, lC4, _⟩ := lC
      rename Shared => S₁
      have hnx : AllGe (S₁.heap.objs.size + 1 + 1 + 1) (tl₁ ++ tl₂) := fun q hq => (List.mem_append.mp hq).elim (fun hq => Nat.le_trans lA3 (lB q hq)) (fun hq => Nat.le_trans lC3 (lD q hq))
      have su₁ : ∀ q ∈ tl₁, q ∈ tl₁ ++ tl₂ := fun q hq => List.mem_append_left _ hq
      have su₂ : ∀ q ∈ tl₂, q ∈ tl₁ ++ tl₂ := fun q hq => List.mem_append_right _ hq
      replace hE₁ := hE₁.mono su₁
      replace hU₁ := hU₁.mono su₁
      replace hL₁ := hL₁.mono su₁
      replace hX₁ := hX₁.mono su₁
      replace hR₁ := hR₁.mono su₁
      replace hE₂ := hE₂.mono su₂
      replace hU₂ := hU₂.mono su₂
      replace hL₂ := hL₂.mono su₂
      replace hX₂ := hX₂.mono su₂
      replace hT₂ := su₂ _ hT₂
      clear su₁ su₂ lA1 lA2 lA3 lA4 lB lC1 lC2 lC3 lC4 lD lc₁ hT₁ hS₁
      generalize tl₁ ++ tl₂ = nx at *
      have h63a : (picked 0 ns ns.length).length ≤ 63 := Nat.le_trans (picked_le _ _ _) h63
      have h63b : (picked 1 ns ns.length).length ≤ 63 := Nat.le_trans (picked_le _ _ _) h63
      have h63c := picks_le ns ns.length
      generalize picked 0 ns ns.length = na at *
      generalize picked 1 ns ns.length = nb at *
      clear hI₁ hI₂
      exact by
       k_steps
       refine stop_out ?_
       rename News _ _ _ _ => NN
       rename Fr _ _ _ _ => FF
       refine merge_call _ _ _ _ _ _ _ _ _ _ _ _ _ _ _ _ _ _ _ _ _ _ _ _ _ _ _ _ _ _ _ _ _ BB FF XX NN TT codeHd rfl (hE₁.mono fun q hq => mem3 hq) (hE₂.mono fun q hq => mem3 hq) (hU₁.mono fun q hq => mem3 hq) (hU₂.mono fun q hq => mem3 hq)
         (hL₁.mono fun q hq => mem3 hq) (hL₂.mono fun q hq => mem3 hq) hA₁ hA₂ (by simpa using h63a) (by simpa using h63b) (by rw [hR₁.len1]; exact h63a) (by rw [hR₂.len1]; exact h63b) (hdl₂.imp id fun ⟨t, e⟩ => ⟨_, t, e⟩) (by ktr_room) (by ktr_units) ?_
       clear FF NN
       intro e₃ ua₃ ll₃ as₃ tl₃ c₃ h tk FF NN _ _ hE₃ hU₃ hL₃ hA₃
       obtain ⟨nw, NN, hs⟩ := hide NN
       have su₁ : ∀ q ∈ nx, q ∈ nw := fun q hq => hs q (List.mem_append_right _ (mem3 hq))
       have su₂ : ∀ q ∈ tl₃, q ∈ nw := fun q hq => hs q (List.mem_append_left _ hq)
       have m65 := hs _ (List.mem_append_right _ (.head _))
       have mc2 := hs _ (List.mem_append_right _ (.tail _ (.head _)))
       have mc1 := hs _ (List.mem_append_right _ (.tail _ (.tail _ (.head _))))
       clear hs
       replace hE₁ := hE₁.mono su₁
       replace hU₁ := hU₁.mono su₁
       replace hL₁ := hL₁.mono su₁
       replace hX₁ := hX₁.mono su₁
       replace hR₁ := hR₁.mono su₁
       replace hE₂ := hE₂.mono su₁
       replace hU₂ := hU₂.mono su₁
       replace hL₂ := hL₂.mono su₁
       replace hX₂ := hX₂.mono su₁
       replace hR₂ := hR₂.mono su₁
       replace hE₃ := hE₃.mono su₂
       replace hU₃ := hU₃.mono su₂
       replace hL₃ := hL₃.mono su₂
       clear su₁ su₂ hnx hS₂ hT₂
       exact by
        k_steps
        refine stop_out ?_
        have hX₁' := hX₁
        have hX₂' := hX₂
        obtain ⟨nX₁, hX₁'⟩ := hX₁'
        obtain ⟨nX₂, hX₂'⟩ := hX₂'
        rename News _ _ _ _ => NN
        rename Fr _ _ _ _ => FF
        refine kmk_add_lit (zs := ts₁ ++ ts₂) FF NN (is_lst (vs := ts₁) NN (by k_mem)) (is_lst (vs := ts₂) NN (by k_mem)) rfl ?_ (by rw [sizeLine_eq]; simp only [hR₁.len2, hR₂.len2]; omega)
        clear FF NN
        intro D₃ h FF NN lD₃
        exact by
         k_steps
         refine stop_out ?_
         rename News _ _ _ _ => NN
         rename Fr _ _ _ _ => FF
         obtain ⟨nz, NN, hs⟩ := hide NN
         have mL := hs _ (.head _)
         have mT3 := hs _ (.tail _ (.head _))
         have mD3 := hs _ (.tail _ (.tail _ (.head _)))
         have mT2 := hs _ (.tail _ (.tail _ (.tail _ (.head _))))
         have mT1 := hs _ (.tail _ (.tail _ (.tail _ (.tail _ (.head _)))))
         have su : ∀ q ∈ nw, q ∈ nz := fun q hq => hs q (.tail _ (.tail _ (.tail _ (.tail _ (.tail _ hq)))))
         clear hs hX₁' hX₂'
         replace m65 := su _ m65
         replace mc1 := su _ mc1
         replace mc2 := su _ mc2
         replace hE₁ := hE₁.mono su
         replace hU₁ := hU₁.mono su
         replace hL₁ := hL₁.mono su
         replace hX₁ := hX₁.mono su
         replace hR₁ := hR₁.mono su
         replace hE₂ := hE₂.mono su
         replace hU₂ := hU₂.mono su
         replace hL₂ := hL₂.mono su
         replace hX₂ := hX₂.mono su
         replace hR₂ := hR₂.mono su
         replace hE₃ := hE₃.mono su
         replace hU₃ := hU₃.mono su
         replace hL₃ := hL₃.mono su
         clear su lD₃
         obtain ⟨ok₁, len₁⟩ := agents_ok na
         have ok₂ := (agents_ok nb).1
         refine trip_loop (PairOk W nz) ?_ rfl FF NN mL ?_ ?_
         · rintro (_ | _ | _ | i) v hv
           · cases hv
             exact ⟨_, _, _, _, _, _, _, _, _, _, _, _, rfl, mT1, hE₁, hU₁, hL₁, hX₁, hA₁, hR₁, h63a, by simpa using h63a, ok₁, len₁⟩
           · cases hv
             exact ⟨_, _, _, _, _, _, _, _, _, _, _, _, rfl, mT2, hE₂, hU₂, hL₂, hX₂, hA₂, hR₂, h63b, by simpa using h63b, ok₂, (agents_ok nb).2⟩
           · cases hv
             refine ⟨_, _, _, _, _, _, _, _, _, _, _, _, rfl, mT3, hE₃, hU₃, hL₃, ⟨_, mD3⟩, hA₃, hR₁.append hR₂, ?_, ?_, ok₁.filter _, fun g hg => len₁ g (List.mem_filter.mp hg).1⟩
             · rw [List.length_append]; omega
             · refine Nat.le_trans (List.length_filter_le _ _) ?_
               simpa using h63a
           · cases hv
         · clear FF NN
           intro v I oI u1 u2 u3 h tk hP hI FF NN
           (repeat revert FF); (repeat revert NN); (repeat revert hI); (repeat revert hP); (repeat revert tk); (repeat revert h); (repeat revert hge); (repeat revert tx)
           (repeat revert mD8); (repeat revert ny); (repeat revert hE₅); (repeat revert lD₈); (repeat revert hZ); (repeat revert zs); (repeat revert D₈); (repeat revert hse)
           (repeat revert lD₇); (repeat revert D₇); (repeat revert t2); (repeat revert t1); (repeat revert de₄); (repeat revert lenD); (repeat revert okD); (repeat revert off₆)
           (repeat revert D₆); (repeat revert hSg); (repeat revert sgs); (repeat revert hE₄); (repeat revert mD5); (repeat revert nv); (repeat revert off₅); (repeat revert D₅)
           (repeat revert hDs); (repeat revert dsl); (repeat revert hTk); (repeat revert td₂); (repeat revert lD₄); (repeat revert D₄); (repeat revert ok₃); (repeat revert off)
           (repeat revert D); (repeat revert r2); (repeat revert r1); (repeat revert de₃); (repeat revert q2); (repeat revert q1); (repeat revert de₂); (repeat revert p2)
           (repeat revert p1); (repeat revert de₁); (repeat revert hsz); (repeat revert u3); (repeat revert u2); (repeat revert u1); (repeat revert oI); (repeat revert I)
           (repeat revert v); (repeat revert hE₃); (repeat revert hE₁); (repeat revert mc2); (repeat revert mc1); (repeat revert ok₂); (repeat revert len₁); (repeat revert ok₁)
           (repeat revert hL₃); (repeat revert hU₃); (repeat revert hR₂); (repeat revert hX₂); (repeat revert hL₂); (repeat revert hU₂); (repeat revert hE₂); (repeat revert hR₁)
           (repeat revert hX₁); (repeat revert hL₁); (repeat revert hU₁); (repeat revert m65); (repeat revert mD3); (repeat revert nz); (repeat revert D₃); (repeat revert nX₂)
           (repeat revert nX₁); (repeat revert nw); (repeat revert hA₃); (repeat revert c₃); (repeat revert tl₃); (repeat revert as₃); (repeat revert ll₃); (repeat revert ua₃)
           (repeat revert e₃); (repeat revert h63c); (repeat revert h63b); (repeat revert hA₂); (repeat revert nb); (repeat revert h63a); (repeat revert hA₁); (repeat revert na)
           (repeat revert nx); (repeat revert kT₂); (repeat revert c₂); (repeat revert ps₂); (repeat revert tl₂); (repeat revert as₂); (repeat revert ts₂); (repeat revert rs₂)
           (repeat revert ll₂); (repeat revert ua₂); (repeat revert rl₂); (repeat revert e₂); (repeat revert t₂); (repeat revert hdl₂); (repeat revert tk'); (repeat revert dl₂)
           (repeat revert D₂); (repeat revert ys₂); (repeat revert g); (repeat revert kT₁); (repeat revert c₁); (repeat revert ps₁); (repeat revert tl₁); (repeat revert as₁)
           (repeat revert ts₁); (repeat revert rs₁); (repeat revert ll₁); (repeat revert ua₁); (repeat revert rl₁); (repeat revert e₁); (repeat revert t₁); (repeat revert D₁)
           (repeat revert ys₁); (repeat revert h63); (repeat revert l65); (repeat revert codeHd); (repeat revert BB); (repeat revert XX); (repeat revert ns); (repeat revert hT9)
           (repeat revert hT8); (repeat revert S₁); (repeat revert W)
           repeat (rename _ => zz; revert zz)
           intro k₁ k₂
           exact k₁.down
         · clear FF NN
           intro u1 u2 u3 h tk FF NN
           clear mT1 mT2 mT3 mL mD3
           (repeat revert FF); (repeat revert NN); (repeat revert hI); (repeat revert hP); (repeat revert tk); (repeat revert h); (repeat revert hge); (repeat revert tx)
           (repeat revert mD8); (repeat revert ny); (repeat revert hE₅); (repeat revert lD₈); (repeat revert hZ); (repeat revert zs); (repeat revert D₈); (repeat revert hse)
           (repeat revert lD₇); (repeat revert D₇); (repeat revert t2); (repeat revert t1); (repeat revert de₄); (repeat revert lenD); (repeat revert okD); (repeat revert off₆)
           (repeat revert D₆); (repeat revert hSg); (repeat revert sgs); (repeat revert hE₄); (repeat revert mD5); (repeat revert nv); (repeat revert off₅); (repeat revert D₅)
           (repeat revert hDs); (repeat revert dsl); (repeat revert hTk); (repeat revert td₂); (repeat revert lD₄); (repeat revert D₄); (repeat revert ok₃); (repeat revert off)
           (repeat revert D); (repeat revert r2); (repeat revert r1); (repeat revert de₃); (repeat revert q2); (repeat revert q1); (repeat revert de₂); (repeat revert p2)
           (repeat revert p1); (repeat revert de₁); (repeat revert hsz); (repeat revert u3); (repeat revert u2); (repeat revert u1); (repeat revert oI); (repeat revert I)
           (repeat revert v); (repeat revert hE₃); (repeat revert hE₁); (repeat revert mc2); (repeat revert mc1); (repeat revert ok₂); (repeat revert len₁); (repeat revert ok₁)
           (repeat revert hL₃); (repeat revert hU₃); (repeat revert hR₂); (repeat revert hX₂); (repeat revert hL₂); (repeat revert hU₂); (repeat revert hE₂); (repeat revert hR₁)
           (repeat revert hX₁); (repeat revert hL₁); (repeat revert hU₁); (repeat revert m65); (repeat revert mD3); (repeat revert nz); (repeat revert D₃); (repeat revert nX₂)
           (repeat revert nX₁); (repeat revert nw); (repeat revert hA₃); (repeat revert c₃); (repeat revert tl₃); (repeat revert as₃); (repeat revert ll₃); (repeat revert ua₃)
           (repeat revert e₃); (repeat revert h63c); (repeat revert h63b); (repeat revert hA₂); (repeat revert nb); (repeat revert h63a); (repeat revert hA₁); (repeat revert na)
           (repeat revert nx); (repeat revert kT₂); (repeat revert c₂); (repeat revert ps₂); (repeat revert tl₂); (repeat revert as₂); (repeat revert ts₂); (repeat revert rs₂)
           (repeat revert ll₂); (repeat revert ua₂); (repeat revert rl₂); (repeat revert e₂); (repeat revert t₂); (repeat revert hdl₂); (repeat revert tk'); (repeat revert dl₂)
           (repeat revert D₂); (repeat revert ys₂); (repeat revert g); (repeat revert kT₁); (repeat revert c₁); (repeat revert ps₁); (repeat revert tl₁); (repeat revert as₁)
           (repeat revert ts₁); (repeat revert rs₁); (repeat revert ll₁); (repeat revert ua₁); (repeat revert rl₁); (repeat revert e₁); (repeat revert t₁); (repeat revert D₁)
           (repeat revert ys₁); (repeat revert h63); (repeat revert l65); (repeat revert codeHd); (repeat revert BB); (repeat revert XX); (repeat revert ns); (repeat revert hT9)
           (repeat revert hT8); (repeat revert S₁); (repeat revert W)
           repeat (rename _ => zz; revert zz)
           intro k₁ k₂
           exact k₂.down)⟩

set_option maxHeartbeats 40000000 in
theorem turn0 : cut0.1 := by
  intro z0
  set_option tactic.hygienic false in intros
  obtain ⟨t, e, rl, ua, ll, dl, rs, ts, as, gs, nn, k, rfl, hT, hE, hU, hL, hX, hA, hR, hq1, hq2, hq3, hq4⟩ := hP
  have hE' := hE
  obtain ⟨de, a1, b1, a2, b2, a3, b3, a4, b4, i1, i2⟩ := hE'
  exact by
   k_steps
   refine stop_out ?_
   rename News _ _ _ _ => NN
   rename Fr _ _ _ _ => FF
   refine flat_loop rfl FF NN (.head _) ?_ ?_
   · --[A
     clear FF NN
     intro i v I₂ oI₂ h tk hv hI₂ FF NN
     have hnm : ∃ nm t, v = .str nm t ∧ NameOk nm := by
       rcases i with _ | _ | _ | i
       · cases hv; exact ⟨_, _, rfl, .inl rfl⟩
       · cases hv; exact ⟨_, _, rfl, .inr (.inl rfl)⟩
       · cases hv; exact ⟨_, _, rfl, .inr (.inr rfl)⟩
       · cases hv
     obtain ⟨nm, tn, rfl, hnm⟩ := hnm
     clear hv
     exact by
      k_steps
      refine stop_out ?_
      refine allowance_call _ _ _ _ _ _ _ _ _ _ _ _ _ _ _ _ _ _ _ _ _ _ _ _ _ _ _ BB FF XX NN TT codeHd rfl (hE.mono fun q hq => mem3 hq) (hL.mono fun q hq => mem3 hq) (hR.mono fun q hq => mem3 hq) hnm (by ktr_room) (by ktr_units) ?_
      clear FF NN
      intro h tk FF NN
      exact by
       k_steps
       refine stop_out ?_
       refine lawallowed_call _ _ _ _ _ _ _ _ _ _ _ _ _ _ _ _ _ _ _ _ _ _ _ _ BB FF XX NN TT codeHd rfl (hX.mono fun q hq => mem3 hq) (hR.mono fun q hq => mem3 hq) hq1 hnm (by ktr_room) (by ktr_units) ?_
       clear FF NN
       intro h tk FF NN
       exact by
        k_steps
        all_goals first
          | exact flat_next rfl hI₂ FF NN (by intro z z1; simp [z1])
          | (exfalso; rename (_ != _) = true => hb; simp at hb; done)
   · clear FF NN
     intro u4 h tk FF NN
     exact by
      k_steps
      refine stop_out ?_
      rename News _ _ _ _ => NN
      rename Fr _ _ _ _ => FF
      refine flat_loop rfl FF NN (.head _) ?_ ?_
      · --[B
        clear FF NN
        intro i v I₂ oI₂ h tk hv hI₂ FF NN
        have hnm : v = .none ∨ ∃ nm t, v = .str nm t ∧ nm.length ≤ 100 ∧ (headOf nm).length ≤ 100 := by
          rcases i with _ | _ | _ | _ | _ | _ | _ | _ | i
          · cases hv; exact .inl rfl
          all_goals first
            | (cases hv; exact .inr ⟨_, _, rfl, by decide +kernel, by decide +kernel⟩)
            | cases hv
        clear hv
        rcases hnm with rfl | ⟨nm, tn, rfl, hn1, hn2⟩
        · k_steps
          refine stop_out ?_
          refine applies_none _ _ _ _ _ _ _ _ _ _ _ _ _ _ _ _ _ _ _ _ _ _ _ _ BB FF XX NN TT codeHd rfl (hE.mono fun q hq => .tail _ (mem3 hq)) (hU.mono fun q hq => .tail _ (mem3 hq)) hA hq2 (by ktr_room) (by ktr_units) ?_
          clear FF NN
          intro h tk FF NN
          exact by
           k_steps
           refine stop_out ?_
           refine lawapplies_none _ _ _ _ _ _ _ _ _ _ _ _ _ _ _ _ _ _ _ _ _ BB FF XX NN TT codeHd rfl (hU.mono fun q hq => .tail _ (mem3 hq)) hA hq2 (by ktr_room) (by ktr_units) ?_
           clear FF NN
           intro h tk FF NN
           exact by
            k_steps
            all_goals first
              | exact flat_next rfl hI₂ FF NN (by intro z z1; simp [z1])
              | (exfalso; rename (_ != _) = true => hb; simp at hb; done)
        · k_steps
          refine stop_out ?_
          refine applies_call _ _ _ _ _ _ _ _ _ _ _ _ _ _ _ _ _ _ _ _ _ _ _ _ _ _ BB FF XX NN TT codeHd rfl (hE.mono fun q hq => .tail _ (mem3 hq)) (hU.mono fun q hq => .tail _ (mem3 hq)) hA hn1 hn2 hq4 (by ktr_room) (by ktr_units) ?_
          clear FF NN
          intro h tk FF NN
          exact by
           k_steps
           refine stop_out ?_
           refine lawapplies_call _ _ _ _ _ _ _ _ _ _ _ _ _ _ _ _ _ _ _ _ _ _ _ BB FF XX NN TT codeHd rfl (hU.mono fun q hq => .tail _ (mem3 hq)) hA hq2 hn1 hn2 hq4 hq3 (by ktr_room) (by ktr_units) ?_
           clear FF NN
           intro h tk FF NN
           exact by
            k_steps
            all_goals first
              | exact flat_next rfl hI₂ FF NN (by intro z z1; simp [z1])
              | (exfalso; rename (_ != _) = true => hb; simp at hb; done)
      · clear FF NN
        intro u5 h tk FF NN
        exact by
         k_steps
         rename News _ _ _ _ => NN
         rename Fr _ _ _ _ => FF
         exact trip_next hI FF (sub_news NN fun q hq => by simp only [List.mem_cons] at hq ⊢; grind) (by intro z z1 z2 z3; simp [z1, z2, z3])

set_option maxHeartbeats 40000000 in
def cut2 : (R₁ : Prop) ×' (R₂ : Prop) ×' (PLift R₁ → PLift R₂ → cut0.2.1) := ⟨_, _, fun k₁ k₂ => by
  intro z0
  set_option tactic.hygienic false in intros
  have hE₁' := hE₁
  have hE₂' := hE₂
  have hE₃' := hE₃
  obtain ⟨de₁, _, _, _, _, _, _, _, _, p1, p2⟩ := hE₁'
  obtain ⟨de₂, _, _, _, _, _, _, _, _, q1, q2⟩ := hE₂'
  obtain ⟨de₃, _, _, _, _, _, _, _, _, r1, r2⟩ := hE₃'
  obtain ⟨_, hU₁⟩ := hU₁
  obtain ⟨_, hU₂⟩ := hU₂
  obtain ⟨_, hU₃⟩ := hU₃
  obtain ⟨_, hL₁⟩ := hL₁
  obtain ⟨_, hL₂⟩ := hL₂
  obtain ⟨_, hL₃⟩ := hL₃
  exact by
   k_steps
   refine stop_out ?_
   rename News _ _ _ _ => NN
   rename Fr _ _ _ _ => FF
   have hsz : as₁.toArray.size ≤ sizeLine := by rw [sizeLine_eq, List.size_toArray, hA₁.length, List.length_map]; omega
   refine LCt.CompSrcT.ledger (its := as₁.toArray) (by rfl) FF NN hU₁ hsz ?_
   intro g
   refine restT (fun i ys => StrsAre ys (((na.map agentOf).take i).filter fun k => (nb.map agentOf).any (· == k))) (.inr ⟨_, hU₁, rfl, _, rfl⟩) ?_ ?_ _ 0 [] (Nat.zero_add _) .nil
   · clear FF NN
     intro i v ys I oI C oC D m₂ h tk E' hi hv hJ hC hx FF NN off ne
     obtain ⟨g, hg, t, rfl⟩ := hA₁.get (show as₁[i]? = some v by simpa using hv)
     have hAs := strs_of hA₂
     exact by
      k_steps
      all_goals first
        | exact ⟨_, _, rfl, by k_asm, by k_asm, flt_yes hJ hg (by assumption)⟩
        | exact ⟨_, _, rfl, by k_asm, by k_asm, flt_no hJ hg (by assumption)⟩
   · clear FF NN
     intro ys hJ
     rw [List.size_toArray, hA₁.length, List.take_length] at hJ
     intro D h tk FF NN off
     have ok₃ := ok₁.filter fun k => (nb.map agentOf).any (· == k)
     exact by
      k_steps
      refine stop_out ?_
      rename News _ _ _ _ => NN
      rename Fr _ _ _ _ => FF
      refine kmk_add_lit (zs := rs₁ ++ rs₂) FF NN (is_lst (vs := rs₁) NN (by k_mem)) (is_lst (vs := rs₂) NN (by k_mem)) rfl ?_ (by rw [sizeLine_eq]; simp only [hR₁.len1, hR₂.len1]; omega)
      clear FF NN
      intro D₄ h FF NN lD₄
      rcases hdl₂ with rfl | ⟨td₂, rfl⟩
      · (repeat revert FF); (repeat revert NN); (repeat revert hI); (repeat revert hP); (repeat revert tk); (repeat revert h); (repeat revert hge); (repeat revert tx)
        (repeat revert mD8); (repeat revert ny); (repeat revert hE₅); (repeat revert lD₈); (repeat revert hZ); (repeat revert zs); (repeat revert D₈); (repeat revert hse)
        (repeat revert lD₇); (repeat revert D₇); (repeat revert t2); (repeat revert t1); (repeat revert de₄); (repeat revert lenD); (repeat revert okD); (repeat revert off₆)
        (repeat revert D₆); (repeat revert hSg); (repeat revert sgs); (repeat revert hE₄); (repeat revert mD5); (repeat revert nv); (repeat revert off₅); (repeat revert D₅)
        (repeat revert hDs); (repeat revert dsl); (repeat revert hTk); (repeat revert td₂); (repeat revert lD₄); (repeat revert D₄); (repeat revert ok₃); (repeat revert off)
        (repeat revert D); (repeat revert r2); (repeat revert r1); (repeat revert de₃); (repeat revert q2); (repeat revert q1); (repeat revert de₂); (repeat revert p2)
        (repeat revert p1); (repeat revert de₁); (repeat revert hsz); (repeat revert u3); (repeat revert u2); (repeat revert u1); (repeat revert oI); (repeat revert I)
        (repeat revert v); (repeat revert hE₃); (repeat revert hE₁); (repeat revert mc2); (repeat revert mc1); (repeat revert ok₂); (repeat revert len₁); (repeat revert ok₁)
        (repeat revert hL₃); (repeat revert hU₃); (repeat revert hR₂); (repeat revert hX₂); (repeat revert hL₂); (repeat revert hU₂); (repeat revert hE₂); (repeat revert hR₁)
        (repeat revert hX₁); (repeat revert hL₁); (repeat revert hU₁); (repeat revert m65); (repeat revert mD3); (repeat revert nz); (repeat revert D₃); (repeat revert nX₂)
        (repeat revert nX₁); (repeat revert nw); (repeat revert hA₃); (repeat revert c₃); (repeat revert tl₃); (repeat revert as₃); (repeat revert ll₃); (repeat revert ua₃)
        (repeat revert e₃); (repeat revert h63c); (repeat revert h63b); (repeat revert hA₂); (repeat revert nb); (repeat revert h63a); (repeat revert hA₁); (repeat revert na)
        (repeat revert nx); (repeat revert kT₂); (repeat revert c₂); (repeat revert ps₂); (repeat revert tl₂); (repeat revert as₂); (repeat revert ts₂); (repeat revert rs₂)
        (repeat revert ll₂); (repeat revert ua₂); (repeat revert rl₂); (repeat revert e₂); (repeat revert t₂); (repeat revert hdl₂); (repeat revert tk'); (repeat revert dl₂)
        (repeat revert D₂); (repeat revert ys₂); (repeat revert g); (repeat revert kT₁); (repeat revert c₁); (repeat revert ps₁); (repeat revert tl₁); (repeat revert as₁)
        (repeat revert ts₁); (repeat revert rs₁); (repeat revert ll₁); (repeat revert ua₁); (repeat revert rl₁); (repeat revert e₁); (repeat revert t₁); (repeat revert D₁)
        (repeat revert ys₁); (repeat revert h63); (repeat revert l65); (repeat revert codeHd); (repeat revert BB); (repeat revert XX); (repeat revert ns); (repeat revert hT9)
        (repeat revert hT8); (repeat revert S₁); (repeat revert W)
        repeat (rename _ => zz; revert zz)
        intro k₁ k₂
        exact k₁.down
      · (repeat revert FF); (repeat revert NN); (repeat revert hI); (repeat revert hP); (repeat revert tk); (repeat revert h); (repeat revert hge); (repeat revert tx)
        (repeat revert mD8); (repeat revert ny); (repeat revert hE₅); (repeat revert lD₈); (repeat revert hZ); (repeat revert zs); (repeat revert D₈); (repeat revert hse)
        (repeat revert lD₇); (repeat revert D₇); (repeat revert t2); (repeat revert t1); (repeat revert de₄); (repeat revert lenD); (repeat revert okD); (repeat revert off₆)
        (repeat revert D₆); (repeat revert hSg); (repeat revert sgs); (repeat revert hE₄); (repeat revert mD5); (repeat revert nv); (repeat revert off₅); (repeat revert D₅)
        (repeat revert hDs); (repeat revert dsl); (repeat revert hTk); (repeat revert td₂); (repeat revert lD₄); (repeat revert D₄); (repeat revert ok₃); (repeat revert off)
        (repeat revert D); (repeat revert r2); (repeat revert r1); (repeat revert de₃); (repeat revert q2); (repeat revert q1); (repeat revert de₂); (repeat revert p2)
        (repeat revert p1); (repeat revert de₁); (repeat revert hsz); (repeat revert u3); (repeat revert u2); (repeat revert u1); (repeat revert oI); (repeat revert I)
        (repeat revert v); (repeat revert hE₃); (repeat revert hE₁); (repeat revert mc2); (repeat revert mc1); (repeat revert ok₂); (repeat revert len₁); (repeat revert ok₁)
        (repeat revert hL₃); (repeat revert hU₃); (repeat revert hR₂); (repeat revert hX₂); (repeat revert hL₂); (repeat revert hU₂); (repeat revert hE₂); (repeat revert hR₁)
        (repeat revert hX₁); (repeat revert hL₁); (repeat revert hU₁); (repeat revert m65); (repeat revert mD3); (repeat revert nz); (repeat revert D₃); (repeat revert nX₂)
        (repeat revert nX₁); (repeat revert nw); (repeat revert hA₃); (repeat revert c₃); (repeat revert tl₃); (repeat revert as₃); (repeat revert ll₃); (repeat revert ua₃)
        (repeat revert e₃); (repeat revert h63c); (repeat revert h63b); (repeat revert hA₂); (repeat revert nb); (repeat revert h63a); (repeat revert hA₁); (repeat revert na)
        (repeat revert nx); (repeat revert kT₂); (repeat revert c₂); (repeat revert ps₂); (repeat revert tl₂); (repeat revert as₂); (repeat revert ts₂); (repeat revert rs₂)
        (repeat revert ll₂); (repeat revert ua₂); (repeat revert rl₂); (repeat revert e₂); (repeat revert t₂); (repeat revert hdl₂); (repeat revert tk'); (repeat revert dl₂)
        (repeat revert D₂); (repeat revert ys₂); (repeat revert g); (repeat revert kT₁); (repeat revert c₁); (repeat revert ps₁); (repeat revert tl₁); (repeat revert as₁)
        (repeat revert ts₁); (repeat revert rs₁); (repeat revert ll₁); (repeat revert ua₁); (repeat revert rl₁); (repeat revert e₁); (repeat revert t₁); (repeat revert D₁)
        (repeat revert ys₁); (repeat revert h63); (repeat revert l65); (repeat revert codeHd); (repeat revert BB); (repeat revert XX); (repeat revert ns); (repeat revert hT9)
        (repeat revert hT8); (repeat revert S₁); (repeat revert W)
        repeat (rename _ => zz; revert zz)
        intro k₁ k₂
        exact k₂.down⟩

set_option maxHeartbeats 40000000 in
theorem tail_none : cut2.1 := by
  intro z0
  set_option tactic.hygienic false in intros
  dsimp only [mergedDl] at r2
  exact by
   k_steps
   refine stop_out ?_
   rename News _ _ _ _ => NN
   rename Fr _ _ _ _ => FF
   rename IntsAre _ (List.take _ _) => hTk
   refine LCg.CompSrc.ledger (by rfl) FF NN (.head _) (by rw [sizeLine_eq, List.size_toArray, hTk.length, List.length_take]; omega) ?_
   intro g
   refine restU (fun i ys => StrsAre ys (((ns.take 4).take i).map disText)) (.inr ⟨_, .head _, rfl, _, rfl⟩) ?_ ?_ _ 0 [] (Nat.zero_add _) .nil
   · clear FF NN
     intro i v ys I oI C oC D m₂ h tk E' hi hv hJ hC hx FF NN off ne
     obtain ⟨n, t, hn, rfl⟩ := ints_at hTk (by simpa using hv)
     exact by
      k_steps
      exact ⟨_, _, rfl, by k_asm, by k_asm, dis_next hJ hn⟩
   clear FF NN
   intro dsl hDs D₅ h tk FF NN off₅
   rw [List.size_toArray, hTk.length, List.take_length] at hDs
   exact by
    simp only [PyProof.Rows.LCg.Off1] at off₅
    exact by
     k_steps
     refine stop_out ?_
     rename News _ _ _ _ => NN
     rename Fr _ _ _ _ => FF
     obtain ⟨nv, NN, hs⟩ := hide NN
     have mD5 := hs _ (.head _)
     have hE₄ : EntAt nv _ ua₁ D₅ _ := ⟨_, _, _, _, _, _, _, _, _, hs _ (.tail _ (.tail _ (.tail _ (.tail _ (.head _))))), hs _ (.tail _ (.tail _ (.tail _ (.tail _ (.tail _ (.head _))))))⟩
     have su : ∀ q ∈ nz, q ∈ nv := fun q hq => hs q (.tail _ (.tail _ (.tail _ (.tail _ (.tail _ (.tail _ (.tail _ (.tail _ hq))))))))
     clear hs
     replace m65 := su _ m65
     replace mc1 := su _ mc1
     replace mc2 := su _ mc2
     replace p1 := su _ p1
     replace p2 := su _ p2
     replace q1 := su _ q1
     replace q2 := su _ q2
     replace hU₁ := su _ hU₁
     clear su r1 r2 hU₂ hU₃ hL₁ hL₂ hL₃ hE₁ hE₂ hE₃ hX₁ hX₂ hR₁ hR₂
     refine LCg.CompSrc.ledger (its := as₁.toArray) (by rfl) FF NN hU₁ hsz ?_
     intro g
     refine restU (fun i ys => StrsAre ys (((na.map agentOf).take i).map sayAg)) (.inr ⟨_, hU₁, rfl, _, rfl⟩) ?_ ?_ _ 0 [] (Nat.zero_add _) .nil
     · clear FF NN
       intro i v ys I oI C oC D m₂ h tk E' hi hv hJ hC hx FF NN off ne
       obtain ⟨g, hg, t, rfl⟩ := hA₁.get (show as₁[i]? = some v by simpa using hv)
       have hl100 := len₁ g (List.mem_of_getElem? hg)
       exact by
        k_steps
        exact ⟨_, _, rfl, by k_asm, by k_asm, sayl_next hJ hg⟩
     clear FF NN
     intro sgs hSg D₆ h tk FF NN off₆
     rw [List.size_toArray, hA₁.length, List.take_length] at hSg
     refine as_state (s' := { S₁ with heap := h, toks := tk }) rfl ?_
     have okD := dis_ok (ns.take 4)
     have lenD := dis_len (ns.take 4)
     obtain ⟨de₄, _, _, _, _, _, _, _, _, t1, t2⟩ := hE₄
     exact by
      k_steps
      refine stop_out ?_
      rename News _ _ _ _ => NN
      rename Fr _ _ _ _ => FF
      refine add_vals (xs := sgs) (ys := []) FF NN (by k_mem) (.head _) (by simp only [hSg.length, List.length_map, List.length_nil, List.length_cons]; omega) ?_
      clear FF NN
      intro D₇ h FF NN lD₇
      exact by
       k_steps
       · refine stop_out ?_
         rename decide _ = true => hse
         rename News _ _ _ _ => NN
         rename Fr _ _ _ _ => FF
         refine add_rows (xs := sgs ++ []) FF NN (by k_mem) (.head _) (rows_all0 hSg (decide_eq_true_iff.mp hse) _) (told_count (by simpa using h63a) (by simp only [List.length_map, List.length_take]; omega)) ?_
         clear FF NN
         intro D₈ zs h hZ FF NN lD₈
         have hE₅ : EntAt nv _ ua₁ D₅ _ := ⟨_, _, _, _, _, _, _, _, _, t1, t2⟩
         obtain ⟨ny, NN, hs⟩ := hide NN
         have mD8 := hs _ (.head _)
         have su : ∀ q ∈ nv, q ∈ ny := fun q hq => hs q (by simp only [List.mem_cons]; grind)
         clear hs
         replace m65 := su _ m65
         replace mc1 := su _ mc1
         replace mc2 := su _ mc2
         replace t1 := su _ t1
         replace t2 := su _ t2
         replace mD5 := su _ mD5
         replace hE₅ := hE₅.mono su
         replace hU₁ := su _ hU₁
         replace p1 := su _ p1
         replace p2 := su _ p2
         clear su q1 q2
         exact by
          k_steps
          refine stop_out ?_
          rename News _ _ _ _ => NN
          rename Fr _ _ _ _ => FF
          refine str_call _ _ _ _ _ _ _ _ _ _ _ _ _ _ _ _ _ _ _ _ _ _ _ _ _ _ BB FF XX NN TT codeHd rfl hE₅ ⟨_, hU₁⟩ ⟨_, mD5⟩ hA₁ hDs (by simpa using h63a) (by simp only [List.length_map, List.length_take]; omega) (.inl rfl) (by ktr_room) (by ktr_units) len₁ lenD ?_
          clear FF NN
          intro tx h tk FF NN
          dsimp only [StrBack]
          have mark : Kept (True ∧ True) := ⟨trivial, trivial⟩
          exact by
           k_steps
           all_goals try (refine stop_out ?_; rename decide _ = true => hge; rw [told_empty (decide_eq_true_iff.mp hge)]; k_steps; done)
           refine stop_out ?_
           clear mark
           rename decide _ = false => hge
           rename News _ _ _ _ => NN
           refine join_N (ys := toldRows (na.map agentOf) .none ((ns.take 4).map disText)) NN (.tail _ mD8) rfl hZ (told_len len₁ lenD) (told_count (by simpa using h63a) (by simp only [List.length_map, List.length_take]; omega)) ?_
           intro t' k
           rw [told_text (emp_of (decide_eq_false_iff_not.mp hge))]
           exact by
            k_steps

       · refine stop_out ?_
         rename decide _ = false => hse
         rename News _ _ _ _ => NN
         rename Fr _ _ _ _ => FF
         refine add_rows (xs := sgs ++ []) (ys := dsl) FF NN (by k_mem) (by k_mem) (rows_all1 hSg hDs (decide_eq_false_iff_not.mp hse)) (told_count (by simpa using h63a) (by simp only [List.length_map, List.length_take]; omega)) ?_
         clear FF NN
         intro D₈ zs h hZ FF NN lD₈
         have hE₅ : EntAt nv _ ua₁ D₅ _ := ⟨_, _, _, _, _, _, _, _, _, t1, t2⟩
         obtain ⟨ny, NN, hs⟩ := hide NN
         have mD8 := hs _ (.head _)
         have su : ∀ q ∈ nv, q ∈ ny := fun q hq => hs q (by simp only [List.mem_cons]; grind)
         clear hs
         replace m65 := su _ m65
         replace mc1 := su _ mc1
         replace mc2 := su _ mc2
         replace t1 := su _ t1
         replace t2 := su _ t2
         replace mD5 := su _ mD5
         replace hE₅ := hE₅.mono su
         replace hU₁ := su _ hU₁
         replace p1 := su _ p1
         replace p2 := su _ p2
         clear su q1 q2
         exact by
          k_steps
          refine stop_out ?_
          rename News _ _ _ _ => NN
          rename Fr _ _ _ _ => FF
          refine str_call _ _ _ _ _ _ _ _ _ _ _ _ _ _ _ _ _ _ _ _ _ _ _ _ _ _ BB FF XX NN TT codeHd rfl hE₅ ⟨_, hU₁⟩ ⟨_, mD5⟩ hA₁ hDs (by simpa using h63a) (by simp only [List.length_map, List.length_take]; omega) (.inl rfl) (by ktr_room) (by ktr_units) len₁ lenD ?_
          clear FF NN
          intro tx h tk FF NN
          dsimp only [StrBack]
          have mark : Kept (True ∧ True) := ⟨trivial, trivial⟩
          exact by
           k_steps
           all_goals try (refine stop_out ?_; rename decide _ = true => hge; rw [told_empty (decide_eq_true_iff.mp hge)]; k_steps; done)
           refine stop_out ?_
           clear mark
           rename decide _ = false => hge
           rename News _ _ _ _ => NN
           refine join_N (ys := toldRows (na.map agentOf) .none ((ns.take 4).map disText)) NN (.tail _ mD8) rfl hZ (told_len len₁ lenD) (told_count (by simpa using h63a) (by simp only [List.length_map, List.length_take]; omega)) ?_
           intro t' k
           rw [told_text (emp_of (decide_eq_false_iff_not.mp hge))]
           exact by
            k_steps

set_option maxHeartbeats 40000000 in
theorem tail_three : cut2.2.1 := by
  intro z0
  set_option tactic.hygienic false in intros
  dsimp only [mergedDl] at r2
  exact by
   k_steps
   refine stop_out ?_
   rename News _ _ _ _ => NN
   rename Fr _ _ _ _ => FF
   rename IntsAre _ (List.take _ _) => hTk
   refine LCg.CompSrc.ledger (by rfl) FF NN (.head _) (by rw [sizeLine_eq, List.size_toArray, hTk.length, List.length_take]; omega) ?_
   intro g
   refine restU (fun i ys => StrsAre ys (((ns.take 4).take i).map disText)) (.inr ⟨_, .head _, rfl, _, rfl⟩) ?_ ?_ _ 0 [] (Nat.zero_add _) .nil
   · clear FF NN
     intro i v ys I oI C oC D m₂ h tk E' hi hv hJ hC hx FF NN off ne
     obtain ⟨n, t, hn, rfl⟩ := ints_at hTk (by simpa using hv)
     exact by
      k_steps
      exact ⟨_, _, rfl, by k_asm, by k_asm, dis_next hJ hn⟩
   clear FF NN
   intro dsl hDs D₅ h tk FF NN off₅
   rw [List.size_toArray, hTk.length, List.take_length] at hDs
   exact by
    simp only [PyProof.Rows.LCg.Off1] at off₅
    exact by
     k_steps
     refine stop_out ?_
     rename News _ _ _ _ => NN
     rename Fr _ _ _ _ => FF
     obtain ⟨nv, NN, hs⟩ := hide NN
     have mD5 := hs _ (.head _)
     have hE₄ : EntAt nv _ ua₁ D₅ _ := ⟨_, _, _, _, _, _, _, _, _, hs _ (.tail _ (.tail _ (.tail _ (.tail _ (.head _))))), hs _ (.tail _ (.tail _ (.tail _ (.tail _ (.tail _ (.head _))))))⟩
     have su : ∀ q ∈ nz, q ∈ nv := fun q hq => hs q (.tail _ (.tail _ (.tail _ (.tail _ (.tail _ (.tail _ (.tail _ (.tail _ hq))))))))
     clear hs
     replace m65 := su _ m65
     replace mc1 := su _ mc1
     replace mc2 := su _ mc2
     replace p1 := su _ p1
     replace p2 := su _ p2
     replace q1 := su _ q1
     replace q2 := su _ q2
     replace hU₁ := su _ hU₁
     clear su r1 r2 hU₂ hU₃ hL₁ hL₂ hL₃ hE₁ hE₂ hE₃ hX₁ hX₂ hR₁ hR₂
     refine LCg.CompSrc.ledger (its := as₁.toArray) (by rfl) FF NN hU₁ hsz ?_
     intro g
     refine restU (fun i ys => StrsAre ys (((na.map agentOf).take i).map sayAg)) (.inr ⟨_, hU₁, rfl, _, rfl⟩) ?_ ?_ _ 0 [] (Nat.zero_add _) .nil
     · clear FF NN
       intro i v ys I oI C oC D m₂ h tk E' hi hv hJ hC hx FF NN off ne
       obtain ⟨g, hg, t, rfl⟩ := hA₁.get (show as₁[i]? = some v by simpa using hv)
       have hl100 := len₁ g (List.mem_of_getElem? hg)
       exact by
        k_steps
        exact ⟨_, _, rfl, by k_asm, by k_asm, sayl_next hJ hg⟩
     clear FF NN
     intro sgs hSg D₆ h tk FF NN off₆
     rw [List.size_toArray, hA₁.length, List.take_length] at hSg
     refine as_state (s' := { S₁ with heap := h, toks := tk }) rfl ?_
     have okD := dis_ok (ns.take 4)
     have lenD := dis_len (ns.take 4)
     obtain ⟨de₄, _, _, _, _, _, _, _, _, t1, t2⟩ := hE₄
     exact by
      k_steps
      refine stop_out ?_
      rename News _ _ _ _ => NN
      rename Fr _ _ _ _ => FF
      refine add_vals (xs := sgs) (ys := [_]) FF NN (by k_mem) (.head _) (by simp only [hSg.length, List.length_map, List.length_nil, List.length_cons]; omega) ?_
      clear FF NN
      intro D₇ h FF NN lD₇
      exact by
       k_steps
       · refine stop_out ?_
         rename decide _ = true => hse
         rename News _ _ _ _ => NN
         rename Fr _ _ _ _ => FF
         refine add_rows (xs := sgs ++ [_]) FF NN (by k_mem) (.head _) (rows_all2 (td := td₂) hSg (decide_eq_true_iff.mp hse) _) (told_count (by simpa using h63a) (by simp only [List.length_map, List.length_take]; omega)) ?_
         clear FF NN
         intro D₈ zs h hZ FF NN lD₈
         have hE₅ : EntAt nv _ ua₁ D₅ _ := ⟨_, _, _, _, _, _, _, _, _, t1, t2⟩
         obtain ⟨ny, NN, hs⟩ := hide NN
         have mD8 := hs _ (.head _)
         have su : ∀ q ∈ nv, q ∈ ny := fun q hq => hs q (by simp only [List.mem_cons]; grind)
         clear hs
         replace m65 := su _ m65
         replace mc1 := su _ mc1
         replace mc2 := su _ mc2
         replace t1 := su _ t1
         replace t2 := su _ t2
         replace mD5 := su _ mD5
         replace hE₅ := hE₅.mono su
         replace hU₁ := su _ hU₁
         replace p1 := su _ p1
         replace p2 := su _ p2
         clear su q1 q2
         exact by
          k_steps
          refine stop_out ?_
          rename News _ _ _ _ => NN
          rename Fr _ _ _ _ => FF
          refine str_call _ _ _ _ _ _ _ _ _ _ _ _ _ _ _ _ _ _ _ _ _ _ _ _ _ _ BB FF XX NN TT codeHd rfl hE₅ ⟨_, hU₁⟩ ⟨_, mD5⟩ hA₁ hDs (by simpa using h63a) (by simp only [List.length_map, List.length_take]; omega) (.inr ⟨_, rfl⟩) (by ktr_room) (by ktr_units) len₁ lenD ?_
          clear FF NN
          intro tx h tk FF NN
          dsimp only [StrBack]
          have mark : Kept (True ∧ True) := ⟨trivial, trivial⟩
          exact by
           k_steps
           all_goals try (refine stop_out ?_; rename decide _ = true => hge; rw [told_empty (decide_eq_true_iff.mp hge)]; k_steps; done)
           refine stop_out ?_
           clear mark
           rename decide _ = false => hge
           rename News _ _ _ _ => NN
           refine join_N (ys := toldRows (na.map agentOf) (.int 3 td₂) ((ns.take 4).map disText)) NN (.tail _ mD8) rfl hZ (told_len len₁ lenD) (told_count (by simpa using h63a) (by simp only [List.length_map, List.length_take]; omega)) ?_
           intro t' k
           rw [told_text (emp_of (decide_eq_false_iff_not.mp hge))]
           exact by
            k_steps

       · refine stop_out ?_
         rename decide _ = false => hse
         rename News _ _ _ _ => NN
         rename Fr _ _ _ _ => FF
         refine add_rows (xs := sgs ++ [_]) (ys := dsl) FF NN (by k_mem) (by k_mem) (rows_all3 (td := td₂) hSg hDs (decide_eq_false_iff_not.mp hse)) (told_count (by simpa using h63a) (by simp only [List.length_map, List.length_take]; omega)) ?_
         clear FF NN
         intro D₈ zs h hZ FF NN lD₈
         have hE₅ : EntAt nv _ ua₁ D₅ _ := ⟨_, _, _, _, _, _, _, _, _, t1, t2⟩
         obtain ⟨ny, NN, hs⟩ := hide NN
         have mD8 := hs _ (.head _)
         have su : ∀ q ∈ nv, q ∈ ny := fun q hq => hs q (by simp only [List.mem_cons]; grind)
         clear hs
         replace m65 := su _ m65
         replace mc1 := su _ mc1
         replace mc2 := su _ mc2
         replace t1 := su _ t1
         replace t2 := su _ t2
         replace mD5 := su _ mD5
         replace hE₅ := hE₅.mono su
         replace hU₁ := su _ hU₁
         replace p1 := su _ p1
         replace p2 := su _ p2
         clear su q1 q2
         exact by
          k_steps
          refine stop_out ?_
          rename News _ _ _ _ => NN
          rename Fr _ _ _ _ => FF
          refine str_call _ _ _ _ _ _ _ _ _ _ _ _ _ _ _ _ _ _ _ _ _ _ _ _ _ _ BB FF XX NN TT codeHd rfl hE₅ ⟨_, hU₁⟩ ⟨_, mD5⟩ hA₁ hDs (by simpa using h63a) (by simp only [List.length_map, List.length_take]; omega) (.inr ⟨_, rfl⟩) (by ktr_room) (by ktr_units) len₁ lenD ?_
          clear FF NN
          intro tx h tk FF NN
          dsimp only [StrBack]
          have mark : Kept (True ∧ True) := ⟨trivial, trivial⟩
          exact by
           k_steps
           all_goals try (refine stop_out ?_; rename decide _ = true => hge; rw [told_empty (decide_eq_true_iff.mp hge)]; k_steps; done)
           refine stop_out ?_
           clear mark
           rename decide _ = false => hge
           rename News _ _ _ _ => NN
           refine join_N (ys := toldRows (na.map agentOf) (.int 3 td₂) ((ns.take 4).map disText)) NN (.tail _ mD8) rfl hZ (told_len len₁ lenD) (told_count (by simpa using h63a) (by simp only [List.length_map, List.length_take]; omega)) ?_
           intro t' k
           rw [told_text (emp_of (decide_eq_false_iff_not.mp hge))]
           exact by
            k_steps

theorem foo : PySem.Challenge.rw_wy0073_01.Holds := cut0.2.2 ⟨turn0⟩ ⟨cut2.2.2 ⟨tail_none⟩ ⟨tail_three⟩⟩
end

end Mine

set_option maxRecDepth 100000 in
set_option maxHeartbeats 8000000 in
theorem PySem.Challenge.cw_wy0073_01_holds : PySem.Challenge.rw_wy0073_01.Holds := by
  exact Mine.foo
