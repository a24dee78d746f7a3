import PyProof.Rows.All
import Wide.All
import OpenK.AllK
import Wide.FinOn
import PySem.Challenge.RW_ny0467_01
set_option Elab.async false
set_option linter.unusedVariables false
open PySem PySem.W PyProof.Rows
set_option maxRecDepth 100000
set_option maxHeartbeats 8000000
namespace Mine
open_top hd for PySem.Challenge.rw_ny0467_01
end Mine
section
open PySem PySem.W PyProof.Rows
set_option maxRecDepth 100000
set_option maxHeartbeats 8000000
namespace Mine
def bitS (m : Int) : Str := Txt.item (Str.ofString "01") (m.fmod 2)
def half (m : Int) : Int := m.fdiv 2
def nameOf (m : Int) : Str := Str.ofString "/" ++
  (bitS (half (half (half (half (half (half (half m))))))) ++ (bitS (half (half (half (half (half (half m)))))) ++ (bitS (half (half (half (half (half m))))) ++ (bitS (half (half (half (half m)))) ++
  (bitS (half (half (half m))) ++ (bitS (half (half m)) ++ (bitS (half m) ++ (bitS m ++ Str.ofString "")))))))) ++ Str.ofString "/"
theorem unr_off {l : List (Addr × Obj)} {i : Addr} (h : ∀ p ∈ l, p.1 < i) : ∀ p ∈ l, p.1 ≠ i := fun p hp => Nat.ne_of_lt (h p hp)
theorem name_spec {w : World} {p : Program} {loose : List Str} {mean : ExcName → Option Value} {mg mb : Str → Option Value} (cbNews : CbLed) (v : Int) (t : CbTok) :
   CbClaim PySem.Challenge.rw_ny0467_01.row.prog w (hd.heap_39 w.params) p loose mean mg mb 77 cbNews [] True [.int v t] (fun t => .str (nameOf v) t) := by
  k_with_none
  w_top off
  k_with "UnrEnd" => (refine UnrEnd.intro (by k_asm) (by k_asm) cbNews (fun p hp => hp) (unr_off (by assumption)) ?_)
  k_fill
  dsimp only [CbClaim, CbLists, CbRet]
  intros
  rename_i hret
  refine wpAny_call ?_
  k_dflt cell_enter
  k_steps
  all_goals cb_end hret
end Mine
end
section
open PySem PySem.W PyProof.Rows PySem.Calls Builtin Builtin.ObjectAttr
set_option maxRecDepth 100000
set_option maxHeartbeats 1000000
namespace Mine
/-- a look-up in a built-in class, by the fast table -/
theorem lookBy {T : String} {name : Str} {r : Option Value} (h : fastLookup T name = some r) : typeLookup (.type T) name = pure r := by
  rw [typeLookup_type, builtinLookup_eq_fast, h]
/-- a slot, with what is to be evaluated gathered in one place -/
theorem slotBy {T : String} {name : Str} {id : String} (owner n : String) (hl : fastLookup T name = some (some (.builtin id)))
    (hi : splitId id = some (owner, n) ∧ withoutEnding? id "#opaque" = none ∧ withoutEnding? id "#data" = none ∧ plainId id = true)
    (hk : (Manifest.find? owner).bind (·.attrs.lookup n) = some .slot ∨ (Manifest.find? owner).bind (·.attrs.lookup n) = some .method) (hs : isSubtype (.type T) (.type owner) = pure true) : Slot T name id :=
  .of (lookBy hl) hi.1 hi.2.1 hi.2.2.1 hk hs hi.2.2.2
theorem subFn : isSubtype (.type "function") (.type "object") = pure true := by rw [isSubtype_type]; kernel_rfl
theorem storeFn : StoreFacts "function" [.type "function", .type "object"] "object.__setattr__" "object" :=
  { F.store_object with
    mro := by kernel_rfl
    slot := slotBy "object" "__setattr__" (by kernel_rfl) (by decide +kernel) (by decide +kernel) subFn
    passes := fun _ => by kernel_rfl }
theorem noApplies : typeLookup (.type "function") (Str.ofString "applies_to") = pure none := lookBy (by kernel_rfl)
theorem noAllowance : typeLookup (.type "function") (Str.ofString "allowance") = pure none := lookBy (by kernel_rfl)
theorem noGetattr : typeLookup (.type "function") (Str.ofString "__getattr__") = pure none := lookBy (by kernel_rfl)
theorem gaFn : Slot "function" "__getattribute__" "object.__getattribute__" := slotBy "object" "__getattribute__" (by kernel_rfl) (by decide +kernel) (by decide +kernel) subFn

theorem putL_len (name : Str) (hsh : Int) (key v : Value) : ∀ es : List DictEntry, (putL name hsh key v es).length = if es.any (·.key.isStr name) then es.length else es.length + 1
  | [] => rfl
  | e :: r => by
    unfold putL
    rw [List.any_cons]
    cases h : e.key.isStr name with
    | true => simp
    | false =>
      simp only [Bool.false_eq_true, if_false, List.length_cons, Bool.false_or, putL_len name hsh key v r]
      split <;> rfl
section
variable {prog : Program} {w : World} {A : Around} {E : Value → Shared → Prop} {s : Shared} {h₀ : Heap} {L f d : Addr} {m : Str → Option Value} {name : Str} {v : Value} {fo : Obj} {fd : FuncData} {sl : Array (Option Value)} {rest : List (Addr × Obj)} {es : List DictEntry} {n : Nat}

theorem fn_type {M : Model} {h : Heap} {o : Obj} (ho : h.get? f = some o) (hc : o.cls = .type "function") : Looks M h (typeOf (.ref f)) (.type "function") := hc ▸ (Looks.ld ho).andThen .now

theorem set_fn_open {o : Obj} {Q : Unit → Shared → Prop} (ho : s.heap.get? f = some o) (hc : o.cls = .type "function") (hn : typeLookup (.type "function") name = pure none)
    (h : wpAny (model prog w) A.in1 (storeInOwnDict (.ref f) (.type "function") (.str name s.toks) name v false) (fun fin s' => match fin with | .done (.ret _) => Q () s' | _ => False) E { s with toks := s.toks + 1 }) :
    wpAny (model prog w) A (setAttr (.ref f) name v) Q E s := by
  obtain ⟨hh, g, dd, t, os⟩ := s
  have SF := storeFn
  have ty := fn_type (M := model prog w) (h := hh) ho hc
  refine wpAny_bind (wpAny_mkText (wpAny_bind (wpAny_bind (wpAny_bind (ty.at ?_)))))
  refine (Looks.of_pure SF.slot.lookup).at (wpAny_holding ?_)
  rw [SF.slot.bind]
  refine wpAny_bind (wpAny_pure (wpAny_bind (wpAny_call (codeAny_call_builtin SF.slot.plain SF.entry (@check_slot (model prog w) _ _ _ "object.__setattr__" "object" "__setattr__" (.ref f) [.str name t, v] [] _ SF.kind SF.split (ty.andThen (Looks.of_pure subFn)) (SF.args (.ref f) (.str name t) v) ?_)))))
  show wpAny (model prog w) A.in1 (Builtin.«object.__setattr__» ⟨[.ref f, .str name t, v], []⟩) _ _ _
  rw [osa_eq, refuse_eq]
  refine wpAny_bind (wpAny_bind (ty.at (wpAny_bind ((Looks.of_pure SF.mro).at ?_))))
  rw [SF.passes]
  refine wpAny_pure (wpAny_bind (ty.at (wpAny_bind ((Looks.of_pure hn).at (wpAny_bind (wpAny_pure ?_))))))
  refine wpAny_mono h (fun fin s' z => ?_) fun _ _ z => z
  rcases fin with (_ | _ | _ | _) | _ <;> first | exact z.elim | exact wpAny_pure (wpAny_pure z)

theorem key_free {es : List DictEntry} (hl : (getL name es).isSome = true) : aRefKeyMayBeTheName name es.toArray = false := by
  rw [aRefKeyMayBeTheName_at, List.any_toArray, List.any_toArray]
  cases ha : es.any (·.key.isStr name) with
  | true => rfl
  | false =>
    have hn : es.find? (·.key.isStr name) = none := List.find?_eq_none.mpr (by simpa using ha)
    cases hr : es.any (·.refKey) with
    | false => rfl
    | true =>
      unfold getL at hl
      rw [hn] at hl
      simp [hr] at hl

theorem store_dict {pre post : List (Addr × Obj)} (F : Fr h₀ L s.heap m) (N : News h₀ L s.heap (pre ++ (d, dictOf es n) :: post)) (h1 : ∀ p ∈ pre, p.1 ≠ d) (h2 : ∀ p ∈ post, p.1 ≠ d) (hl : (getL name es).isSome = true) (hz : es.length ≤ 900) {Q : Fin → Shared → Prop}
    (h : ∀ h', Fr h₀ L h' m → News h₀ L h' (pre ++ (d, dictOf (putL name (PyData.keyHash w.params name) (.str name s.toks) v es) (putN name es n)) :: post) → Q (.done (.ret .none)) { s with heap := h', toks := s.toks + 1 }) (t : Tok) :
    wpAny (model prog w) A (storeInDict d (.str name t) name v) Q E s := by
  have up := news_upd (f := Obj.putName name (PyData.keyHash w.params name) (.str name s.toks) v) F N h1 h2 (putName_dict _ _ _ _ _ _) rfl
  have was := (N (d, dictOf es n) (by simp)).1
  have now := (up.2 (d, dictOf (putL name (PyData.keyHash w.params name) (.str name s.toks) v es) (putN name es n)) (by simp)).1
  have room : (putL name (PyData.keyHash w.params name) (.str name s.toks) v es).toArray.size ≤ sizeLine + 1 := by
    rw [List.size_toArray, sizeLine_eq, putL_len]
    split <;> omega
  have fits : (dictOf (putL name (PyData.keyHash w.params name) (.str name s.toks) v es) (putN name es n)).data.pastItsLine = none := pastItsLine_dict room
  have free := key_free hl
  obtain ⟨hh, g, dd, tk, os⟩ := s
  wp_walk using wpAny_askSetting, wpAny_mkText, wpAny_loadPart was, wpAny_updatePart was
  dsimp only
  rw [fits]
  exact wpAny_pure (wpAny_pure (h _ up.1 up.2))

theorem fn_dict_new (F : Fr h₀ L s.heap m) (N : News h₀ L s.heap ((f, ⟨.type "function", none, .func fd, sl⟩) :: rest)) (hr : ∀ q ∈ rest, q.1 ≠ f) {Q : Fin → Shared → Prop}
    (h : ∀ d h', d = s.heap.objs.size → Fr h₀ L h' m → News h₀ L h' ((f, ⟨.type "function", some d, .func fd, sl⟩) :: (d, dictOf [⟨PyData.keyHash w.params name, .str name s.toks, v⟩] 1) :: rest) → (∀ q ∈ (f, ⟨.type "function", none, .func fd, sl⟩) :: rest, q.1 < d) →
      Q (.done (.ret .none)) { s with heap := h', toks := s.toks + 1 }) (t : Tok) :
    wpAny (model prog w) A (storeInOwnDict (.ref f) (.type "function") (.str name t) name v false) Q E s := by
  have hf := (N _ (.head _)).1
  unfold storeInOwnDict
  refine wpAny_bind (wpAny_pure ?_)
  refine wpAny_bind ?_
  show wpAny (model prog w) A (instanceDict f true) _ _ _
  unfold instanceDict
  refine wpAny_bind (wpAny_loadPart hf ?_)
  dsimp only
  have hd : (!true || !typeHasDict (.type "function")) = false := by decide +kernel
  rw [hd]
  have FP := F.push (dictOf [] 0)
  have NP := N.push F (dictOf [] 0)
  refine wpAny_bind (wpAny_alloc ?_)
  have hne : ∀ q ∈ ((s.heap.objs.size, dictOf [] 0) :: rest), q.1 ≠ f := fun q hq => by
    rcases List.mem_cons.mp hq with rfl | hq
    · exact Nat.ne_of_gt (Heap.lt_size hf)
    · exact hr q hq
  have NQ : News h₀ L (s.heap.push (dictOf [] 0)) ([] ++ (f, (⟨.type "function", none, .func fd, sl⟩ : Obj)) :: ((s.heap.objs.size, dictOf [] 0) :: rest)) := fun q hq => NP q (by
    rcases List.mem_cons.mp hq with h | hq
    · exact h ▸ .tail _ (.head _)
    · rcases List.mem_cons.mp hq with h | hq
      · exact h ▸ .head _
      · exact .tail _ (.tail _ hq))
  obtain ⟨U1, U2⟩ := news_upd (f := fun o => { o with dict := some s.heap.objs.size }) (o' := ⟨.type "function", some s.heap.objs.size, .func fd, sl⟩) FP NQ (fun _ h => nomatch h) hne rfl rfl
  refine wpAny_bind (wpAny_update (NQ _ (.head _)).1 ?_)
  refine wpAny_bind (wpAny_pure (wpAny_pure ?_))
  exact store_dict (s := { s with heap := (s.heap.push (dictOf [] 0)).update f fun o => { o with dict := some s.heap.objs.size } }) U1 (pre := [(f, _)]) (es := []) (n := 0) U2 (fun q hq => by
      rw [List.mem_singleton.mp hq]; exact Nat.ne_of_lt (Heap.lt_size hf)) (fun q hq => Nat.ne_of_lt (Heap.lt_size (N q (.tail _ hq)).1)) rfl (by decide) (fun h' F' N' => h _ h' rfl F' N' (fun q hq => Heap.lt_size (N q hq).1)) t

theorem set_fn_new {Q : Unit → Shared → Prop} (F : Fr h₀ L s.heap m) (N : News h₀ L s.heap ((f, ⟨.type "function", none, .func fd, sl⟩) :: rest)) (hr : ∀ q ∈ rest, q.1 ≠ f) (hn : typeLookup (.type "function") name = pure none)
    (h : ∀ d h', Fr h₀ L h' m → News h₀ L h' ((f, ⟨.type "function", some d, .func fd, sl⟩) :: (d, dictOf [⟨PyData.keyHash w.params name, .str name (s.toks + 1), v⟩] 1) :: rest) → (∀ q ∈ (f, ⟨.type "function", none, .func fd, sl⟩) :: rest, q.1 < d) →
      Q () { s with heap := h', toks := s.toks + 2 }) : wpAny (model prog w) A (setAttr (.ref f) name v) Q E s :=
  set_fn_open (N _ (.head _)).1 rfl hn (fn_dict_new (s := { s with toks := s.toks + 1 }) F N hr (fun d h' _ F' N' l => h d h' F' N' l) _)

theorem set_fn_old {Q : Unit → Shared → Prop} (F : Fr h₀ L s.heap m) (hf : s.heap.get? f = some ⟨.type "function", some d, .func fd, sl⟩) (N : News h₀ L s.heap ((d, dictOf es n) :: rest)) (hr : ∀ q ∈ rest, q.1 ≠ d) (hn : typeLookup (.type "function") name = pure none)
    (hl : (getL name es).isSome = true) (hz : es.length ≤ 900)
    (h : ∀ h', Fr h₀ L h' m → News h₀ L h' ((d, dictOf (putL name (PyData.keyHash w.params name) (.str name (s.toks + 1)) v es) (putN name es n)) :: rest) → Q () { s with heap := h', toks := s.toks + 2 }) :
    wpAny (model prog w) A (setAttr (.ref f) name v) Q E s := by
  refine set_fn_open hf rfl hn ?_
  unfold storeInOwnDict
  refine wpAny_bind (wpAny_pure ?_)
  refine wpAny_bind ?_
  show wpAny (model prog w) A.in1 (instanceDict f true) _ _ _
  unfold instanceDict
  refine wpAny_bind (wpAny_loadPart hf ?_)
  dsimp only
  refine wpAny_pure ?_
  exact store_dict (s := { s with toks := s.toks + 1 }) (pre := []) F N (fun _ h => nomatch h) hr hl hz (fun h' F' N' => h h' F' N') _

theorem get_fn {expr : Bool} {Q : Value → Shared → Prop} (hf : s.heap.get? f = some ⟨.type "function", some d, .func fd, sl⟩) (hd : s.heap.get? d = some (dictOf es n)) (hn : typeLookup (.type "function") name = pure none)
    (hl : getL name es = some (some v)) (hv : handedIn v = true) (h : Q v { s with toks := s.toks + 1 }) : wpAny (model prog w) A (getAttr (.ref f) name expr) Q E s := by
  obtain ⟨hh, g, dd, t, os⟩ := s
  have ty := fn_type (M := model prog w) (h := hh) hf rfl
  unfold getAttr getAttrBy
  refine wpAny_bind (wpAny_mkText (wpAny_holding (wpAny_bind (ty.at (wpAny_bind ((Looks.of_pure gaFn.lookup).at ?_))))))
  show wpAny _ _ (getAttrByItsOwn _ _ _ _ _ _) _ _ _
  unfold getAttrByItsOwn
  refine wpAny_bind (wpAny_pure ?_)
  refine wpAny_bind (wpAny_attempt ?_)
  refine wpAny_holding ?_
  unfold callGetattribute
  have hx : (expr && onTheHeap (.builtin "object.__getattribute__")) = false := by cases expr <;> rfl
  rw [hx]
  show wpAny _ _ (boundAndCalled _ _ _) _ _ _
  unfold boundAndCalled
  rw [gaFn.bind]
  refine wpAny_bind (wpAny_pure (wpAny_call (codeAny_call_builtin gaFn.plain F.entry_object_getattribute (@check_slot (model prog w) _ _ _ "object.__getattribute__" "object" "__getattribute__" (.ref f) [.str name t] [] _ (by decide +kernel) (by decide +kernel) (ty.andThen (Looks.of_pure subFn)) (F.args_object_getattribute_2 (.ref f) (.str name t)) ?_))))
  show wpAny (model prog w) A.in1 (Builtin.«object.__getattribute__» ⟨[.ref f, .str name t], []⟩) _ _ _
  unfold Builtin.«object.__getattribute__»
  refine wpAny_bind (wpAny_pure (wpAny_bind (wpAny_pure (wpAny_bind (ty.at (wpAny_bind ?_))))))
  have own : Looks (model prog w) hh (inOwnDict name (.ref f)) (some v) := by
    have ld : Looks (model prog w) hh (ownDict f) (some d) := (Looks.ld hf).andThen ((Looks.ld hf).andThen .now)
    refine ld.andThen ?_
    show Looks (model prog w) hh (nsGet d name) (some v)
    rw [nsGet_eq]
    intro A Q E s k q
    refine nd_load (k _ _ hd) ?_
    rw [nsLook_of (r := some v) (by rw [lookIn_dict]; exact hl)]
    exact wpAny_pure q
  have fnd : Looks (model prog w) hh (find (.ref f) (.type "function") name) (.value v) :=
    (Looks.of_pure hn).andThen (Looks.now.andThen (Looks.now.andThen (own.andThen (Looks.tag .now))))
  refine fnd.at ?_
  refine wpAny_pure ?_
  show wpAny _ _ (handedOut v) _ _ _
  rw [handedOut_of hv]
  exact wpAny_pure h

theorem method_fn' {pl : Sem Bool} {Q : Value × List Value → Shared → Prop} (hf : s.heap.get? f = some ⟨.type "function", some d, .func fd, sl⟩) (hd : s.heap.get? d = some (dictOf es n)) (hn : typeLookup (.type "function") name = pure none)
    (hl : getL name es = some (some v)) (hv : handedIn v = true) (h : Q (v, []) { s with toks := s.toks + 1 }) : wpAny (model prog w) A (getMethod (.ref f) name pl) Q E s := by
  have ty := fn_type (M := model prog w) (h := s.heap) hf rfl
  have sp : ∀ {nm : Str} {r : Option Value}, typeLookup (.type "function") nm = pure r → Looks (model prog w) s.heap (specialOf (.ref f) nm) r := fun e => ty.andThen (Looks.of_pure e)
  unfold getMethod
  refine wpAny_bind ((sp gaFn.lookup).here ?_)
  dsimp only
  have hc : (Manifest.canonical "object.__getattribute__" != "object.__getattribute__") = false := by decide +kernel
  rw [hc]
  refine wpAny_bind ((sp noGetattr).here ?_)
  refine wpAny_bind ((sp hn).here ?_)
  exact wpAny_bind (wpAny_mono (get_fn hf hd hn hl hv (Q := fun v' s' => v' = v ∧ s' = { s with toks := s.toks + 1 }) ⟨rfl, rfl⟩) (fun _ _ ⟨e, e'⟩ => by subst e e'; exact wpAny_pure h) fun _ _ z => z)
end
end Mine
end
section
open PySem PySem.W PyProof.Rows PySem.Calls
set_option maxRecDepth 100000
set_option maxHeartbeats 4000000
namespace Mine
abbrev Led := List (Addr × Obj)
def lamE : PySem.Expr := match PySem.Challenge.pw_ny0467_01.main.body with
  | [_, _, _, _, _, _, .FunctionDef _ _ [_, .Assign _ e _, _, _] _ _ _ _ _ _ _, _, _, _, _] => e
  | _ => .Constant .none 0 ⟨0, 0, 0, 0⟩
def lamP : Arguments := match lamE with | .Lambda p _ _ _ => p | _ => default
def lamB : PySem.Expr := match lamE with | .Lambda _ b _ _ => b | _ => .Constant .none 0 ⟨0, 0, 0, 0⟩
def lamS : Scope := match lamE with | .Lambda _ _ s _ => s | _ => default
def lamQ : Str := (Str.ofString "_law_rule" ++ Str.ofString ".<locals>.") ++ Str.ofString "<lambda>"

def CodeIn (news : Led) (c : Addr) : Prop := ∃ oc vs t, (c, oc) ∈ news ∧ oc.data = .fields vs ∧ vs[1]? = some (.str lamQ t)
def TabInv (ps : Array Value) (news : Led) : Prop := TriplesOk ps.toList ∧ ∀ pos cv, codeAmong pos ps.toList = some cv → ∃ c, cv = .ref c ∧ CodeIn news c
def RuleIn (news : Led) (r : Addr) (path : Str) (vd : Bool) : Prop :=
  ∃ d fd sl es n f c ctv pm cell oce tp,
    (r, (⟨.type "function", some d, .func fd, sl⟩ : Obj)) ∈ news ∧ (d, dictOf es n) ∈ news ∧ getL (Str.ofString "applies_to") es = some (some (.ref f)) ∧ getL (Str.ofString "allowance") es = some (some (.bool vd)) ∧
    (f, kla_obj (Str.ofString "<lambda>") lamQ lamP lamB lamS [(Str.ofString "path", cell)] pm c ctv) ∈ news ∧ (cell, oce) ∈ news ∧ oce.data = .cell (some (.str path tp)) ∧ CodeIn news c
theorem CodeIn.mono {a b : Led} {c : Addr} (h : ∀ p ∈ a, p ∈ b) (x : CodeIn a c) : CodeIn b c := let ⟨oc, vs, t, h1, h2⟩ := x; ⟨oc, vs, t, h _ h1, h2⟩
theorem TabInv.mono {a b : Led} {ps : Array Value} (h : ∀ p ∈ a, p ∈ b) (x : TabInv ps a) : TabInv ps b := ⟨x.1, fun pos cv e => let ⟨c, e1, e2⟩ := x.2 pos cv e; ⟨c, e1, e2.mono h⟩⟩
theorem RuleIn.mono {a b : Led} {r : Addr} {path : Str} {vd : Bool} (h : ∀ p ∈ a, p ∈ b) (x : RuleIn a r path vd) : RuleIn b r path vd :=
  let ⟨d, fd, sl, es, n, f, c, ctv, pm, cell, oce, tp, h1, h2, h3, h4, h5, h6, h7, h8⟩ := x
  ⟨d, fd, sl, es, n, f, c, ctv, pm, cell, oce, tp, h _ h1, h _ h2, h3, h4, h _ h5, h _ h6, h7, h8.mono h⟩
theorem CodeIn.mono' {a b : Led} {c : Addr} (h : ∀ p ∈ a, p ∈ b ∨ ∀ vs, p.2.data ≠ .fields vs) (x : CodeIn a c) : CodeIn b c := by
  obtain ⟨oc, vs, t, h1, h2, h3⟩ := x
  rcases h _ h1 with h | h
  · exact ⟨oc, vs, t, h, h2, h3⟩
  · exact absurd h2 (h vs)
theorem TabInv.mono' {a b : Led} {ps : Array Value} (h : ∀ p ∈ a, p ∈ b ∨ ∀ vs, p.2.data ≠ .fields vs) (x : TabInv ps a) : TabInv ps b := ⟨x.1, fun pos cv e => let ⟨c, e1, e2⟩ := x.2 pos cv e; ⟨c, e1, e2.mono' h⟩⟩
theorem tabInv_nil {news : Led} : TabInv #[] news := ⟨trivial, fun _ _ e => nomatch e⟩
theorem triples_snoc : ∀ (l : List Value) (a b : Int) (c : Value), TriplesOk l → TriplesOk (l ++ [rawInt a, rawInt b, c])
  | [], _, _, _, _ => trivial
  | .int _ _ :: .int _ _ :: _ :: rest, a, b, c, h => triples_snoc rest a b c h
theorem among_snoc {pos : Pos} {cv : Value} : ∀ (l : List Value) (a b : Int) (c : Value), TriplesOk l → codeAmong pos (l ++ [rawInt a, rawInt b, c]) = some cv → codeAmong pos l = some cv ∨ cv = c
  | [], a, b, c, _, e => by
    have e' : (if (a == pos.line && b == pos.col) = true then some c else none) = some cv := e
    split at e'
    · exact .inr (Option.some.inj e').symm
    · cases e'
  | .int x _ :: .int y _ :: z :: rest, a, b, c, h, e => by
    have e' : (if (x == pos.line && y == pos.col) = true then some z else codeAmong pos (rest ++ [rawInt a, rawInt b, c])) = some cv := e
    show (if (x == pos.line && y == pos.col) = true then some z else codeAmong pos rest) = some cv ∨ _
    split at e'
    · rename_i q; rw [if_pos q]; exact .inl e'
    · rename_i q; rw [if_neg q]; exact among_snoc rest a b c h e'
theorem TabInv.snoc {ps : Array Value} {news : Led} {a b : Int} {c : Addr} (x : TabInv ps news) (y : CodeIn news c) : TabInv (ps ++ #[rawInt a, rawInt b, .ref c]) news := by
  have e : (ps ++ #[rawInt a, rawInt b, Value.ref c]).toList = ps.toList ++ [rawInt a, rawInt b, .ref c] := by simp
  refine ⟨by rw [e]; exact triples_snoc _ _ _ _ x.1, fun pos cv q => ?_⟩
  rw [e] at q
  rcases among_snoc _ _ _ _ x.1 q with h | h
  · exact x.2 pos cv h
  · exact ⟨c, h, y⟩

section
variable {prog : Program} {w : World} {A : Around} {E : Value → Shared → Prop} {s : Shared} {h₀ : Heap} {L a c P : Addr} {m mg mb : Str → Option Value} {cn : Str} {cs : Scope} {ccd : Value} {cl : List (Str × Addr)} {news core : Led}
  {p : Program} {loose : List Str} {mean : ExcName → Option Value} {params : Arguments} {body : PySem.Expr} {scope : Scope} {ps : Array Value} {pos : Pos} {clos : List (Str × Addr)}
theorem lam_any {Q : Value → Shared → Prop} (F : Fr h₀ L s.heap m) (N : News h₀ L s.heap ((P, tabObj ps) :: news)) (T : Top p loose mean mg mb h₀) (C : CodeHd h₀ c P) (hcd : ccd = .ref c) (hP : ∀ q ∈ news, q.1 ≠ P) (I : TabInv ps core)
    (hq : (envX cn cs L a ccd cl).qual ++ Str.ofString "<lambda>" = lamQ) (hdef : defaultsOf params (envX cn cs L a ccd cl) = ([], []))
    (hcl : closureFor scope (envX cn cs L a ccd cl) = pure clos)
    (h : ∀ f c' ctv ps' ex h' tk, Fr h₀ L h' m → News h₀ L h' ((P, tabObj ps') :: (f, kla_obj (Str.ofString "<lambda>") lamQ params body scope clos ((mg "__name__").getD .none) c' ctv) :: (ex ++ news)) →
      (∀ q ∈ ((P, tabObj ps) :: news), q.1 < f) → (∀ q ∈ ex, q.1 < f) → (∀ q ∈ ex, ∀ q' ∈ ((P, tabObj ps) :: news), q'.1 < q.1) → TabInv ps' (ex ++ core) → CodeIn (ex ++ core) c' → Q (.ref f) { s with heap := h', toks := tk }) :
    wpAny (model prog w) A (eval (.Lambda params body scope pos) (envX cn cs L a ccd cl)) Q E s := by
  refine kla_eval hdef ?_
  rw [show ((envX cn cs L a ccd cl).qual ++ (("<lambda>" : String) : Str)) = lamQ from hq]
  cases hc : codeAmong pos ps.toList with
  | none =>
    refine kla_nest F N T C hcd (UpdF.head hP) I.1 hc hcl fun f c' oc vs t ctv h' tk F' N' d1 d2 l1 l2 => ?_
    have hin : CodeIn ([(c', oc)] ++ core) c' := ⟨oc, vs, t, .head _, d1, d2⟩
    refine h f c' ctv (ps ++ #[rawInt pos.line, rawInt pos.col, .ref c']) [(c', oc)] h' tk F' (fun q hq => N' q ?_) (fun q hq => Nat.lt_trans (l1 q hq) l2) (fun q hq => by rw [List.mem_singleton.mp hq]; exact l2) (fun q hq q' hq' => by rw [List.mem_singleton.mp hq]; exact l1 q' hq') ((I.mono fun _ z => .tail _ z).snoc hin) hin
    rcases List.mem_cons.mp hq with rfl | hq
    · exact .tail _ (.tail _ (.head _))
    · rcases List.mem_cons.mp hq with rfl | hq
      · exact .head _
      · rcases List.mem_cons.mp hq with rfl | hq
        · exact .tail _ (.head _)
        · exact .tail _ (.tail _ (.tail _ hq))
  | some cv =>
    obtain ⟨c', rfl, hin⟩ := I.2 pos cv hc
    refine kla_hit F N T C hcd (.head _) I.1 hc hcl fun f ctv h' tk F' N' l1 => ?_
    refine h f c' ctv ps [] h' tk F' (fun q hq => N' q ?_) l1 (fun _ z => nomatch z) (fun _ z => nomatch z) I hin
    rcases List.mem_cons.mp hq with rfl | hq
    · exact .tail _ (.head _)
    · rcases List.mem_cons.mp hq with rfl | hq
      · exact .head _
      · exact .tail _ (.tail _ hq)

theorem lam_some {Q : Value → Shared → Prop} (F : Fr h₀ L s.heap m) (N : News h₀ L s.heap ((P, tabObj ps) :: news)) (T : Top p loose mean mg mb h₀) (C : CodeHd h₀ c P) (hcd : ccd = .ref c) (hP : ∀ q ∈ news, q.1 ≠ P) (I : TabInv ps core)
    (hq : (envX cn cs L a ccd cl).qual ++ Str.ofString "<lambda>" = lamQ) (hdef : defaultsOf params (envX cn cs L a ccd cl) = ([], []))
    (hcl : closureFor scope (envX cn cs L a ccd cl) = pure clos)
    (h : ∀ f fd ps' ex h' tk, Fr h₀ L h' m → News h₀ L h' ((P, tabObj ps') :: (f, ⟨.type "function", none, .func fd, #[]⟩) :: (ex ++ news)) →
      (∀ q ∈ ((P, tabObj ps) :: news), q.1 < f) → (∀ q ∈ ex, q.1 < f) → (∀ q ∈ ex, ∀ q' ∈ ((P, tabObj ps) :: news), q'.1 < q.1) → TabInv ps' (ex ++ core) → Q (.ref f) { s with heap := h', toks := tk }) :
    wpAny (model prog w) A (eval (.Lambda params body scope pos) (envX cn cs L a ccd cl)) Q E s :=
  lam_any F N T C hcd hP I hq hdef hcl fun f _ _ ps' ex h' tk F' N' l1 l2 l3 I' _ => h f _ ps' ex h' tk F' N' l1 l2 l3 I'
end
end Mine
end
section
open PySem PySem.W PyProof.Rows PySem.Calls
set_option maxRecDepth 100000
set_option maxHeartbeats 4000000
namespace Mine
theorem codeHd {w : World} {h : Heap} (X : (hd.heap_39 w.params).In h) : CodeHd h 83 79 := by
  have e := X 83 _ rfl
  exact ⟨_, _, _, _, _, _, _, _, _, e, rfl, rfl, rfl, rfl, rfl, rfl, rfl, rfl, by decide⟩
theorem rule_spec {w : World} {p : Program} {loose : List Str} {mean : ExcName → Option Value} {mg mb : Str → Option Value} {news core : Led} {ps : Array Value} {path : Str} {t : Tok} {vd : Bool}
  {dp un : Nat} {gd : Option (List Code)} {cn : Str} {cs : Scope} {a : Addr} {ccd : Value} {cl : List (Str × Addr)} {outer : List Env} {A₀ : Around} {base h₀ : Heap} {L : Addr} {m : Str → Option Value} {s : Shared} {Q E : Value → Shared → Prop}
  (B : Below A₀ base outer h₀) (F : Fr h₀ L s.heap m) (X : (hd.heap_39 w.params).In h₀) (N : News h₀ L s.heap ((79, tabObj ps) :: news)) (Z : ∀ q ∈ news, q.1 ≠ 79) (I : TabInv ps core) (T : Top p loose mean mg mb h₀) (hk : cs.kind = .function)
  (hdp : dp + 1 < recursionLimit) (hu : un + 8 < cLine)
  (hret : ∀ r ps' ex h' tk, Fr h₀ L h' m → News h₀ L h' ((79, tabObj ps') :: (ex ++ news)) → (∀ q ∈ ex, ∀ q' ∈ ((79, tabObj ps) :: news), q'.1 < q.1) → TabInv ps' (ex ++ core) → RuleIn (ex ++ core) r path vd → Q (.ref r) { s with heap := h', toks := tk }) :
    wpAny (model PySem.Challenge.rw_ny0467_01.row.prog w) (ktrTop dp un gd cn cs L a ccd cl outer) (call (.ref 84) [.str path t, .bool vd]) Q E s := by
  k_with_none
  w_top off
  revert X; k_fill; intro X
  refine wpAny_call ?_
  k_dflt (refine' code_defC ?k1 ?k2 ?k3 ?k4 ?k5 ?kA ?kF ?kK ?k6 ?k7 ?k8 ?k9 ?kB ?kD ?_ ?c2 ?c3 ?c4; (case kA => exact rfl); (case kF => exact rfl); (case kK => assumption); (case k1 => k_asm); (case k2 => k_asm); (case k3 => k_asm); (case k4 => k_asm); (case k5 => k_asm); (case k6 => k_is); (case k7 => k_is); (case k8 => ktr_room); (case k9 => exact BindsTo.of_eq rfl); (case kB => exact rfl); (case kD => decide +kernel); (case c2 => exact rfl); (case c3 => exact rfl); (case c4 => exact rfl); k_whole; intro g' L' h' tk' cells' FG' F' N' Y' B' X' T' l1; k_cells Y'; (try simp only [List.cons_append, List.nil_append] at N'); (try dsimp only); (try k_lift B'); (try k_fold))
  rename_i o' d1'
  have N1 : News g' L' h' ((79, tabObj ps) :: (L' + 1, o') :: news) := fun q hq => N' q (by
    rcases List.mem_cons.mp hq with rfl | hq
    · exact .tail _ (.head _)
    · rcases List.mem_cons.mp hq with rfl | hq
      · exact .head _
      · exact .tail _ (.tail _ hq))
  clear N'
  have lL : 79 < L' := l1 _ (.head _)
  have Z1 : ∀ q ∈ (L' + 1, o') :: news, q.1 ≠ 79 := fun q hq => by
    rcases List.mem_cons.mp hq with rfl | hq
    · exact Nat.ne_of_gt (Nat.lt_succ_of_lt lL)
    · exact Z q hq
  k_steps
  refine lam_some ‹Fr g' _ _ _› N1 T' (codeHd X') rfl Z1 I rfl rfl rfl ?_
  intro f1 fd1 ps1 ex1 h1 tk1 F1 N1' la1 lb1 lc1 I1'
  have l79 : 79 < f1 := la1 _ (.head _)
  k_steps
  rename_i hS1 FS1 NS1
  have Z2 : ∀ q ∈ ((f1, (⟨.type "function", none, .func fd1, #[]⟩ : Obj)) :: (ex1 ++ (L' + 1, o') :: news)), q.1 ≠ 79 := fun q hq => by
    rcases List.mem_cons.mp hq with rfl | hq
    · exact Nat.ne_of_gt l79
    · rcases List.mem_append.mp hq with hq | hq
      · exact Nat.ne_of_gt (lc1 q hq _ (.head _))
      · exact Z1 q hq
  refine lam_any FS1 NS1 T' (codeHd X') rfl Z2 I1' rfl rfl rfl ?_
  intro f2 c2 ct2 ps2 ex2 h2 tk2 F2 N2' la2 lb2 lc2 I2' C2
  have l12 : f1 < f2 := la2 _ (.tail _ (.head _))
  obtain ⟨fo2, hfo2⟩ : ∃ o, o = kla_obj (Str.ofString "<lambda>") lamQ lamP lamB lamS [(Str.ofString "path", L' + 1)] ((mg "__name__").getD .none) c2 ct2 := ⟨_, rfl⟩
  have N2 : News g' L' h2 ((f1, (⟨.type "function", none, .func fd1, #[]⟩ : Obj)) :: (79, tabObj ps2) :: (f2, fo2) :: (ex2 ++ (ex1 ++ (L' + 1, o') :: news))) := fun q hq => N2' q (by
    rw [hfo2] at hq
    simp only [List.mem_cons, List.mem_append, or_assoc, or_comm, or_left_comm] at hq ⊢; exact hq)
  clear N2'
  have Z3 : ∀ q ∈ ((79, tabObj ps2) :: (f2, fo2) :: (ex2 ++ (ex1 ++ (L' + 1, o') :: news))), q.1 ≠ f1 := fun q hq => by
    rcases List.mem_cons.mp hq with rfl | hq
    · exact Nat.ne_of_lt l79
    rcases List.mem_cons.mp hq with rfl | hq
    · exact Nat.ne_of_gt l12
    rcases List.mem_append.mp hq with hq | hq
    · exact Nat.ne_of_gt (lc2 q hq _ (.tail _ (.head _)))
    rcases List.mem_append.mp hq with hq | hq
    · exact Nat.ne_of_lt (lb1 q hq)
    · exact Nat.ne_of_lt (la1 q (.tail _ hq))
  k_steps
  refine set_fn_new F2 N2 Z3 noApplies ?_
  intro d h3 F3 N3 ld
  have lfd : f1 < d := ld _ (.head _)
  generalize hkey : Value.str (Str.ofString "applies_to") _ = key1 at N3
  have N4 : News g' L' h3 ((d, dictOf [⟨PyData.keyHash w.params (Str.ofString "applies_to"), key1, .ref f2⟩] 1) :: (f1, (⟨.type "function", some d, .func fd1, #[]⟩ : Obj)) :: (79, tabObj ps2) :: (f2, fo2) :: (ex2 ++ (ex1 ++ (L' + 1, o') :: news))) := fun q hq => N3 q (by
    simp only [List.mem_cons, List.mem_append, or_assoc, or_comm, or_left_comm] at hq ⊢; exact hq)
  clear N3
  have Z4 : ∀ q ∈ ((f1, (⟨.type "function", some d, .func fd1, #[]⟩ : Obj)) :: (79, tabObj ps2) :: (f2, fo2) :: (ex2 ++ (ex1 ++ (L' + 1, o') :: news))), q.1 ≠ d := fun q hq => by
    rcases List.mem_cons.mp hq with rfl | hq
    · exact Nat.ne_of_lt lfd
    · exact Nat.ne_of_lt (ld _ (.tail _ hq))
  k_steps
  refine set_fn_old F3 (N4 _ (.tail _ (.head _))).1 N4 Z4 noAllowance (by subst hkey; rfl) (by simp) ?_
  intro h4 F4 N5
  generalize hes : putL (Str.ofString "allowance") _ _ _ _ = es at N5
  generalize hnn : putN (Str.ofString "allowance") _ _ = nn at N5
  have g1 : getL (Str.ofString "applies_to") es = some (some (.ref f2)) := by subst hes hkey; rfl
  have g2 : getL (Str.ofString "allowance") es = some (some (.bool vd)) := by subst hes hkey; rfl
  k_steps
  rename_i kF kN kT kX
  have sub : ∀ q ∈ ex2 ++ (ex1 ++ core), q ∈ ((d, dictOf es nn) :: (f1, (⟨.type "function", some d, .func fd1, #[]⟩ : Obj)) :: (f2, fo2) :: (ex2 ++ (ex1 ++ [(L' + 1, o')]))) ++ core := fun q hq => by
    rcases List.mem_append.mp hq with hq | hq
    · simp [hq]
    rcases List.mem_append.mp hq with hq | hq
    · simp [hq]
    · simp [hq]
  have big : ∀ q' ∈ ((79, tabObj ps) :: news), q'.1 < L' + 1 := fun q' hq' => Nat.lt_succ_of_lt (l1 q' hq')
  have bigs : ∀ q' ∈ ((79, tabObj ps) :: news), q'.1 < f1 := fun q' hq' => la1 q' (by
    rcases List.mem_cons.mp hq' with rfl | hq'
    · exact .head _
    · exact .tail _ (.tail _ hq'))
  refine hret f1 ps2 ((d, dictOf es nn) :: (f1, (⟨.type "function", some d, .func fd1, #[]⟩ : Obj)) :: (f2, fo2) :: (ex2 ++ (ex1 ++ [(L' + 1, o')]))) _ _ kF (fun q hq => kN q ?_) (fun q hq q' hq' => ?_) (I2'.mono sub) ⟨d, fd1, #[], es, nn, f2, c2, ct2, _, L' + 1, o', t, .tail _ (.head _), .head _, g1, g2, by rw [← hfo2]; exact .tail _ (.tail _ (.head _)), by simp, d1', C2.mono sub⟩
  · simp only [List.mem_cons, List.mem_append, List.mem_nil_iff, or_false, false_or, or_assoc, or_comm, or_left_comm] at hq ⊢; exact hq
  · have hb := bigs q' hq'
    rcases List.mem_cons.mp hq with rfl | hq
    · exact Nat.lt_trans hb lfd
    rcases List.mem_cons.mp hq with rfl | hq
    · exact hb
    rcases List.mem_cons.mp hq with rfl | hq
    · exact Nat.lt_trans hb l12
    rcases List.mem_append.mp hq with hq | hq
    · exact Nat.lt_trans hb (lc2 q hq _ (.tail _ (.head _)))
    rcases List.mem_append.mp hq with hq | hq
    · exact lc1 q hq q' (by
        rcases List.mem_cons.mp hq' with rfl | hq'
        · exact .head _
        · exact .tail _ (.tail _ hq'))
    · rw [List.mem_singleton.mp hq]; exact big q' hq'
end Mine
end
section
open PySem PySem.W PyProof.Rows PySem.Calls
set_option maxRecDepth 100000
set_option maxHeartbeats 4000000
namespace Mine
section
variable {prog : Program} {w : World} {A : Around} {E : Value → Shared → Prop} {s : Shared} {env : Env} {h₀ : Heap} {x : Str} {body : List Stmt} {Q : Flow → Shared → Prop} {L I : Addr} {it : Obj}
theorem unrPost_mono {J J' : (Str → Option Value) → Led → Prop} (h : ∀ m n, J m n → J' m n) {f : Flow} {s₂ : Shared} (p : UnrPost h₀ L s I it J Q f s₂) : UnrPost h₀ L s I it J' Q f s₂ := by
  have up : UnrEnd h₀ L s I it J s₂ → UnrEnd h₀ L s I it J' s₂ := fun ⟨h', tk, m', n', e, F, N, o, r⟩ => ⟨h', tk, m', n', e, F, N, o, h _ _ r⟩
  cases f with
  | ret v => exact p
  | brk => exact p
  | next => exact up p
  | cont => exact up p
theorem range_ind {a : Int} {n : Nat} (J : Nat → (Str → Option Value) → Led → Prop)
    (turn : ∀ i m news it, i < n → J i m news → ∀ t h tk, Fr h₀ env.locals h (fun y => if y = x then some (.int (a + (i : Int)) t) else m y) → News h₀ env.locals h ((I, it) :: news) →
      wpAny (model prog w) A (execs body env) (UnrPost h₀ env.locals { s with heap := h, toks := tk } I it (J (i + 1)) Q) E { s with heap := h, toks := tk })
    (done : ∀ m news, J n m news → ∀ h tk, Fr h₀ env.locals h m → News h₀ env.locals h news → Q .next { s with heap := h, toks := tk }) :
    ∀ k i m news, i + k = n → J i m news → RangeRest prog w A E h₀ env x body Q s I a n k i m news
  | 0, i, m, news, e, hj => fun h tk F N => done m news (by rwa [← e]) h tk F N
  | k + 1, i, m, news, e, hj => fun t h tk F N =>
    wpAny_mono (turn i m news _ (by omega) hj t h tk F N) (fun _ _ p => unrPost_mono (fun m' n' j => range_ind J turn done k (i + 1) m' n' (by omega) j) p) fun _ _ z => z
theorem list_ind {lp : Addr × Obj} (J : List Value → (Str → Option Value) → Led → Prop)
    (turn : ∀ v r m news it, J (v :: r) m news → it.cls = .type "list_iterator" → ∀ h tk, Fr h₀ env.locals h (fun y => if y = x then some v else m y) → News h₀ env.locals h ((I, it) :: news) →
      wpAny (model prog w) A (execs body env) (UnrPost h₀ env.locals { s with heap := h, toks := tk } I it (fun m' n' => lp ∈ n' ∧ J r m' n') Q) E { s with heap := h, toks := tk })
    (done : ∀ m news, J [] m news → ∀ h tk, Fr h₀ env.locals h m → News h₀ env.locals h news → Q .next { s with heap := h, toks := tk }) :
    ∀ vs m news, J vs m news → ListRest prog w A E h₀ env x body Q s I lp vs m news
  | [], m, news, hj => fun h tk F N => done m news hj h tk F N
  | v :: r, m, news, hj => fun it h tk hc F N =>
    wpAny_mono (turn v r m news it hj hc h tk F N) (fun _ _ p => unrPost_mono (fun m' n' j => ⟨j.1, list_ind J turn done r m' n' j.2⟩) p) fun _ _ z => z
end
theorem name_call {w : World} {p : Program} {loose : List Str} {mean : ExcName → Option Value} {mg mb : Str → Option Value} {news : Led} {v : Int} {t : Tok}
  {dp un : Nat} {gd : Option (List Code)} {cn : Str} {cs : Scope} {a : Addr} {ccd : Value} {cl : List (Str × Addr)} {outer : List Env} {A₀ : Around} {base h₀ : Heap} {L : Addr} {m : Str → Option Value} {s : Shared} {Q E : Value → Shared → Prop}
  (B : Below A₀ base outer h₀) (F : Fr h₀ L s.heap m) (X : (hd.heap_39 w.params).In h₀) (N : News h₀ L s.heap news) (T : Top p loose mean mg mb h₀) (hk : cs.kind = .function)
  (hdp : dp + 1 < recursionLimit) (hu : un + 8 < cLine) (hret : ∀ t h' tk, Fr h₀ L h' m → News h₀ L h' news → Q (.str (nameOf v) t) { s with heap := h', toks := tk }) :
  wpAny (model PySem.Challenge.rw_ny0467_01.row.prog w) (ktrTop dp un gd cn cs L a ccd cl outer) (call (.ref 77) [.int v t]) Q E s :=
  name_spec news v t dp un gd cn cs a ccd cl outer A₀ base h₀ L m s Q E B F X N T hk trivial hdp hu hret
end Mine
end
section
open PySem PySem.W PyProof.Rows PySem.Calls
set_option maxRecDepth 100000
set_option maxHeartbeats 4000000
namespace Mine
abbrev entryD (w : World) (ua rl dl rr : Value) (k1 k2 k3 k4 : Tok) : List DictEntry :=
  [⟨PyData.keyHash w.params (Str.ofString "useragents"), .str (Str.ofString "useragents") k1, ua⟩, ⟨PyData.keyHash w.params (Str.ofString "rulelines"), .str (Str.ofString "rulelines") k2, rl⟩,
   ⟨PyData.keyHash w.params (Str.ofString "delay"), .str (Str.ofString "delay") k3, dl⟩, ⟨PyData.keyHash w.params (Str.ofString "req_rate"), .str (Str.ofString "req_rate") k4, rr⟩]
local macro_rules | `(tactic| k_room) => `(tactic| ktr_room)
theorem entry_new {w : World} {p : Program} {loose : List Str} {mean : ExcName → Option Value} {mg mb : Str → Option Value} {news : Led}
  {dp un : Nat} {gd : Option (List Code)} {cn : Str} {cs : Scope} {a : Addr} {ccd : Value} {cl : List (Str × Addr)} {outer : List Env} {A₀ : Around} {base h₀ : Heap} {L : Addr} {m : Str → Option Value} {s : Shared} {Q E : Value → Shared → Prop}
  (B : Below A₀ base outer h₀) (F : Fr h₀ L s.heap m) (X : (hd.heap_39 w.params).In h₀) (N : News h₀ L s.heap news) (T : Top p loose mean mg mb h₀) (hk : cs.kind = .function)
  (hdp : dp + 2 < recursionLimit) (hu : un + 8 < cLine)
  (hret : ∀ x dx lu lr k1 k2 k3 k4 h' tk, Fr h₀ L h' m → News h₀ L h' ((lr, listOf #[] 0) :: (lu, listOf #[] 0) :: (x, instObj 52 dx) :: (dx, dictOf (entryD w (.ref lu) (.ref lr) .none .none k1 k2 k3 k4) 4) :: news) →
    (∀ q ∈ news, q.1 < dx) → dx < x → x < lu → lu < lr → Q (.ref x) { s with heap := h', toks := tk }) :
    wpAny (model PySem.Challenge.rw_ny0467_01.row.prog w) (ktrTop dp un gd cn cs L a ccd cl outer) (call (.ref 52) []) Q E s := by
  k_with_none
  w_top off
  revert X; k_fill; intro X
  k_dflt (refine' call_cls ?k1 ?k2 ?k3 ?k4 ?k5 ?k6 ?_; (case k1 => k_asm); (case k2 => k_asm); (case k3 => k_asm); (case k4 => k_is); (case k5 => k_is); (case k6 => k_is); k_whole; intro x d h1 F1 N1 l1 l2; (have l1' := allLt_of l1); (have l2' := ltN l2))
  k_dflt cell_enter
  k_steps
  rename_i kF kN kT kX
  exact hret x d _ _ _ _ _ _ _ _ kF kN l1 l2 (by refine ltN ?_; omega) (by refine ltN ?_; omega)
end Mine
end
section
open PySem PySem.W PyProof.Rows PySem.Calls
set_option maxRecDepth 100000
set_option maxHeartbeats 4000000
namespace Mine

def kt (m₀ : Str → Option Value) (u v : Option Value) (y : Str) : Option Value := if y = Str.ofString "k" then u else if y = Str.ofString "turned" then v else m₀ y
theorem kt_init (m₀ : Str → Option Value) : m₀ = kt m₀ (m₀ (Str.ofString "k")) (m₀ (Str.ofString "turned")) := by
  funext y
  unfold kt
  split
  · rename_i h; rw [h]
  · split
    · rename_i h; rw [h]
    · rfl
theorem kt_turn (m₀ : Str → Option Value) (u v a b : Option Value) : (fun y => if y = Str.ofString "turned" then b else if y = Str.ofString "k" then a else kt m₀ u v y) = kt m₀ a b := by
  funext y
  unfold kt
  by_cases h : y = Str.ofString "turned"
  · rw [if_pos h, if_neg (by rw [h]; decide), if_pos h]
  · rw [if_neg h]
    by_cases h2 : y = Str.ofString "k"
    · rw [if_pos h2, if_pos h2]
    · rw [if_neg h2, if_neg h2, if_neg h2, if_neg h, if_neg h]
def turnedOf (nm : Str) (k : Int) : Str := if (Txt.item nm k == Str.ofString "0") = true then Str.ofString "1" else Str.ofString "0"
def ruleK (n : Int) (nm : Str) (i : Nat) : Str × Bool := (Txt.slice nm none (some (1 + (i : Int))) ++ turnedOf nm (1 + (i : Int)), turnedOf nm (1 + (i : Int)) == Txt.item (Str.ofString "01") ((n.fdiv 256).fmod 2))
def RulesIn (led : Led) : List Value → List (Str × Bool) → Prop
  | [], [] => True
  | .ref a :: r, q :: qs => RuleIn led a q.1 q.2 ∧ RulesIn led r qs
  | _, _ => False
theorem RulesIn.mono {a b : Led} (h : ∀ p ∈ a, p ∈ b) : ∀ {vs : List Value} {qs : List (Str × Bool)}, RulesIn a vs qs → RulesIn b vs qs
  | [], [], _ => trivial
  | .ref _ :: _, _ :: _, x => ⟨x.1.mono h, RulesIn.mono h x.2⟩
theorem RulesIn.append {a : Led} : ∀ {vs vs' : List Value} {qs qs' : List (Str × Bool)}, RulesIn a vs qs → RulesIn a vs' qs' → RulesIn a (vs ++ vs') (qs ++ qs')
  | [], _, [], _, _, y => y
  | .ref _ :: _, _, _ :: _, _, x, y => ⟨x.1, RulesIn.append x.2 y⟩
theorem RulesIn.snoc {a : Led} {vs : List Value} {qs : List (Str × Bool)} {r : Addr} {q : Str} {b : Bool} (h : RulesIn a vs qs) (g : RuleIn a r q b) : RulesIn a (vs ++ [.ref r]) (qs ++ [(q, b)]) := h.append (vs' := [.ref r]) (qs' := [(q, b)]) ⟨g, trivial⟩
theorem RulesIn.length {a : Led} : ∀ {vs : List Value} {qs : List (Str × Bool)}, RulesIn a vs qs → vs.length = qs.length
  | [], [], _ => rfl
  | .ref _ :: _, _ :: _, x => congrArg (· + 1) (RulesIn.length x.2)
def neN' (a b : Nat) : Prop := a ≠ b
def EntryIn (w : World) (led : Led) (x : Addr) (rules : List (Str × Bool)) : Prop :=
  ∃ dx lu lr refs nn n2 k1 k2 k3 k4, (x, instObj 52 dx) ∈ led ∧ (dx, dictOf (entryD w (.ref lu) (.ref lr) .none .none k1 k2 k3 k4) 4) ∈ led ∧ (lu, listOf #[] n2) ∈ led ∧ (lr, listOf (List.toArray refs) nn) ∈ led ∧ RulesIn led refs rules
def rulesOf (n : Int) (nm : Str) : List (Str × Bool) := (List.range 8).map (ruleK n nm) ++ [(nm, false)]
theorem EntryIn.mono {w : World} {a b : Led} {x : Addr} {rules : List (Str × Bool)} (h : ∀ p ∈ a, p ∈ b) (y : EntryIn w a x rules) : EntryIn w b x rules :=
  let ⟨dx, lu, lr, refs, nn, n2, k1, k2, k3, k4, h1, h2, h3, h4, h5⟩ := y
  ⟨dx, lu, lr, refs, nn, n2, k1, k2, k3, k4, h _ h1, h _ h2, h _ h3, h _ h4, h5.mono h⟩
theorem turned_t {nm : Str} {k : Int} (h : (Txt.item nm k == Str.ofString "0") = true) : Str.ofString "1" = turnedOf nm k := by unfold turnedOf; rw [if_pos h]
theorem turned_f {nm : Str} {k : Int} (h : (Txt.item nm k == Str.ofString "0") = false) : Str.ofString "0" = turnedOf nm k := by unfold turnedOf; rw [h]; rfl
theorem sub3 {a b c d : Led} (h : ∀ p ∈ a, p ∈ d) (hb : ∀ p ∈ b, p ∈ d) (hc : ∀ p ∈ c, p ∈ d) : ∀ p ∈ a ++ (b ++ c), p ∈ d := fun p hp => by
  rcases List.mem_append.mp hp with hp | hp
  · exact h p hp
  rcases List.mem_append.mp hp with hp | hp
  · exact hb p hp
  · exact hc p hp
local macro_rules | `(tactic| k_room) => `(tactic| ktr_room)

theorem record_spec {w : World} {p : Program} {loose : List Str} {mean : ExcName → Option Value} {mg mb : Str → Option Value} {news : Led}
  {dp un : Nat} {gd : Option (List Code)} {cn : Str} {cs : Scope} {a : Addr} {ccd : Value} {cl : List (Str × Addr)} {outer : List Env} {A₀ : Around} {base h₀ : Heap} {L : Addr} {m : Str → Option Value} {s : Shared} {Q E : Value → Shared → Prop}
  (B : Below A₀ base outer h₀) (F : Fr h₀ L s.heap m) (X : (hd.heap_39 w.params).In h₀) (T : Top p loose mean mg mb h₀) (hk : cs.kind = .function) {core : Led} {ps : Array Value} {n : Int} {t : Tok} (N : News h₀ L s.heap ((79, tabObj ps) :: news)) (Z : ∀ q ∈ news, q.1 ≠ 79) (I : TabInv ps core)
  (hdp : dp + 4 < recursionLimit) (hu : un + 12 < cLine) (nm : Str) (hnm : nameOf (n.fmod 256) = nm) (hlen : nm.length = 10)
  (hret : ∀ x ps' ex h' tk, Fr h₀ L h' m → News h₀ L h' ((79, tabObj ps') :: (ex ++ news)) → (∀ q ∈ ex, ∀ q' ∈ ((79, tabObj ps) :: news), q'.1 < q.1) → TabInv ps' (ex ++ core) → EntryIn w (ex ++ core) x (rulesOf n nm) → Q (.ref x) { s with heap := h', toks := tk }) :
    wpAny (model PySem.Challenge.rw_ny0467_01.row.prog w) (ktrTop dp un gd cn cs L a ccd cl outer) (call (.ref 91) [.int n t]) Q E s := by
  k_with_none
  w_top off
  k_with "call ref" => (k_dflt (refine' name_call ?k1 ?k2 ?k3 ?k4 ?k5 ?k6 ?k7 ?k8 ?_; (case k1 => k_asm); (case k2 => k_asm); (case k3 => k_asm); (case k4 => k_asm); (case k5 => k_asm); (case k6 => exact rfl); (case k7 => ktr_room); (case k8 => ktr_units)); intro t' h' tk' F' N'; rw [hnm]; (try dsimp only); (try k_fold))
  k_with "call ref" => (k_dflt (refine' entry_new ?k1 ?k2 ?k3 ?k4 ?k5 ?k6 ?k7 ?k8 ?_; (case k1 => k_asm); (case k2 => k_asm); (case k3 => k_asm); (case k4 => k_asm); (case k5 => k_asm); (case k6 => exact rfl); (case k7 => ktr_room); (case k8 => ktr_units)); intro x' dx' lu' lr' k1' k2' k3' k4' h' tk' F' N' la' lb' lc' ld'; (try dsimp only); (try k_fold))
  revert X; k_fill; intro X
  refine wpAny_call ?_
  k_dflt (refine' code_def ?k1 ?k2 ?k3 ?k4 ?k5 ?kA ?kF ?kK ?k6 ?k7 ?k8 ?k9 ?kB ?_ ?c2 ?c3 ?c4 ?c5; (case kA => exact rfl); (case kF => exact rfl); (case kK => assumption); (case k1 => k_asm); (case k2 => k_asm); (case k3 => k_asm); (case k4 => k_asm); (case k5 => k_asm); (case k6 => k_is); (case k7 => k_is); (case k8 => ktr_room); (case k9 => exact BindsTo.of_eq rfl); (case c5 => decide); (case kB => exact locs rfl); (case c2 => exact rfl); (case c3 => exact rfl); (case c4 => exact rfl); k_whole; intro g L' hE FG FE NE BE XE TE; (try dsimp only); (try k_lift BE); (try k_fold))
  repeat' ((fail_if_success (with_reducible show wpAny _ _ (pyIter _) _ _ _)); first | (k_unfold; (try dsimp only)) | (k_end; wrow_close) | walk1 | (dsimp only; walk1) | (leave1; walk_say "STEP leave1"; try dsimp only) | fail "no step")
  rename_i hh tt t1 t2 t3 rg Fg Ng kg
  have Fg' : Fr g L' hh (fun y => if y = Str.ofString "name" then some (.str nm t') else if y = Str.ofString "record" then some (.ref x') else List.lookup y [(Str.ofString "number", .int n t)]) := Fg
  clear Fg
  have Ng' : News g L' hh ((79, tabObj ps) :: (lr', listOf (List.toArray []) 0) :: (lu', listOf #[] 0) :: (x', instObj 52 dx') :: (dx', dictOf (entryD w (.ref lu') (.ref lr') .none .none k1' k2' k3' k4') 4) :: ([] ++ news)) := fun q hq => Ng q (by
    simp only [List.mem_cons, List.nil_append, or_assoc, or_comm, or_left_comm] at hq ⊢; exact hq)
  clear Ng
  refine iter_rangeUnr (n := 8) rfl rg (by decide) (by decide) Fg' Ng' ?_
  intro Ia lIa
  have E1 := ltN (la' _ (.head _))
  have E2 := ltN lb'
  have E3 := ltN lc'
  have E4 := ltN ld'
  have E5 := ltN (lIa _ (.tail _ (.head _)))
  dsimp only at E1 E5
  refine range_ind (fun i m led => ∃ refs ps' ex nn u v, led = (79, tabObj ps') :: (lr', listOf (List.toArray refs) nn) :: (lu', listOf #[] 0) :: (x', instObj 52 dx') :: (dx', dictOf (entryD w (.ref lu') (.ref lr') .none .none k1' k2' k3' k4') 4) :: (ex ++ news) ∧ 
      m = kt (fun y => if y = Str.ofString "name" then some (.str nm t') else if y = Str.ofString "record" then some (.ref x') else List.lookup y [(Str.ofString "number", .int n t)]) u v ∧ TabInv ps' (ex ++ core) ∧ (∀ q ∈ ex, lr' < q.1) ∧ (∀ q ∈ ex, neN' q.1 Ia) ∧ RulesIn (ex ++ core) refs ((List.range i).map (ruleK n nm))) ?_ ?_ 8 0 _ _ rfl ?_
  · rintro i m led it hi ⟨refs, ps', ex, nn, u, v, rfl, rfl, hI, hex, hI9, hR⟩ t9 h9 tk9 F2 N2
    have N3 : News g L' h9 ((79, tabObj ps') :: (Ia, it) :: (lr', listOf (List.toArray refs) nn) :: (lu', listOf #[] 0) :: (x', instObj 52 dx') :: (dx', dictOf (entryD w (.ref lu') (.ref lr') .none .none k1' k2' k3' k4') 4) :: (ex ++ news)) := fun q hq => N2 q (by
      rcases List.mem_cons.mp hq with rfl | hq
      · exact .tail _ (.head _)
      rcases List.mem_cons.mp hq with rfl | hq
      · exact .head _
      · exact .tail _ (.tail _ hq))
    clear N2
    repeat' ((fail_if_success (with_reducible show wpAny _ _ (PySem.call (Value.ref 84) _) _ _ _)); (fail_if_success (with_reducible show wpAny _ _ (PySem.call (Value.builtin "list.append") _) _ _ _)); first | (k_unfold; (try dsimp only)) | (k_end; wrow_close) | walk1 | (dsimp only; walk1) | (leave1; walk_say "STEP leave1"; try dsimp only) | fail "no step")
    all_goals (
      have hrl : refs.length = i := by rw [hR.length]; simp
      have Z3 : ∀ q ∈ ((Ia, it) :: (lr', listOf (List.toArray refs) nn) :: (lu', listOf #[] 0) :: (x', instObj 52 dx') :: (dx', dictOf (entryD w (.ref lu') (.ref lr') .none .none k1' k2' k3' k4') 4) :: (ex ++ news)), q.1 ≠ 79 := fun q hq => by
        refine neN ?_
        rcases List.mem_cons.mp hq with rfl | hq
        · dsimp only; omega
        rcases List.mem_cons.mp hq with rfl | hq
        · dsimp only; omega
        rcases List.mem_cons.mp hq with rfl | hq
        · dsimp only; omega
        rcases List.mem_cons.mp hq with rfl | hq
        · dsimp only; omega
        rcases List.mem_cons.mp hq with rfl | hq
        · dsimp only; omega
        rcases List.mem_append.mp hq with hq | hq
        · have := ltN (hex q hq); omega
        · exact Z q hq
      k_dflt (refine' rule_spec ?k1 ?k2 ?k3 ?k4 Z3 hI ?k7 ?k8 ?k9 ?k10 ?_; (case k1 => k_asm); (case k2 => k_asm); (case k3 => k_asm); (case k4 => k_asm); (case k7 => k_asm); (case k8 => exact rfl); (case k9 => ktr_room); (case k10 => ktr_units))
      intro r2 ps2 ex2 h2 tk2 Fr2 Nr2 lx2 I2 R2
      have hlx : ∀ q ∈ ex2, lr' < q.1 ∧ Ia < q.1 := fun q hq => ⟨lx2 q hq _ (.tail _ (.tail _ (.head _))), lx2 q hq _ (.tail _ (.head _))⟩
      have N4 : News g L' h2 ((79, tabObj ps2) :: (Ia, it) :: (lr', listOf (List.toArray refs) nn) :: (lu', listOf #[] 0) :: (x', instObj 52 dx') :: (dx', dictOf (entryD w (.ref lu') (.ref lr') .none .none k1' k2' k3' k4') 4) :: ((ex2 ++ ex) ++ news)) := fun q hq => Nr2 q (by
        simp only [List.mem_cons, List.mem_append, or_assoc, or_comm, or_left_comm] at hq ⊢; exact hq)
      clear Nr2
      have Z4 : ∀ q ∈ ((lu', listOf #[] 0) :: (x', instObj 52 dx') :: (dx', dictOf (entryD w (.ref lu') (.ref lr') .none .none k1' k2' k3' k4') 4) :: ((ex2 ++ ex) ++ news)), q.1 ≠ lr' := fun q hq => by
        refine neN ?_
        rcases List.mem_cons.mp hq with rfl | hq
        · dsimp only; omega
        rcases List.mem_cons.mp hq with rfl | hq
        · dsimp only; omega
        rcases List.mem_cons.mp hq with rfl | hq
        · dsimp only; omega
        rcases List.mem_append.mp hq with hq | hq
        · rcases List.mem_append.mp hq with hq | hq
          · have := ltN (hlx q hq).1; omega
          · have := ltN (hex q hq); omega
        · have := ltN (la' q (.tail _ hq)); omega
      repeat' ((fail_if_success (with_reducible show wpAny _ _ (PySem.call (Value.builtin "list.append") _) _ _ _)); first | (k_unfold; (try dsimp only)) | (k_end; wrow_close) | walk1 | (dsimp only; walk1) | (leave1; walk_say "STEP leave1"; try dsimp only) | fail "no step")
      have n1 : (79 : Nat) ≠ lr' := by omega
      have n2 := Nat.ne_of_gt E5
      have U : Upd lr' (listOf (List.toArray refs) nn) (listOf (refs.toArray.push (.ref r2)) (nn + 1)) ((79, tabObj ps2) :: (Ia, it) :: (lr', listOf (List.toArray refs) nn) :: (lu', listOf #[] 0) :: (x', instObj 52 dx') :: (dx', dictOf (entryD w (.ref lu') (.ref lr') .none .none k1' k2' k3' k4') 4) :: ((ex2 ++ ex) ++ news)) ((79, tabObj ps2) :: (Ia, it) :: (lr', listOf (refs.toArray.push (.ref r2)) (nn + 1)) :: (lu', listOf #[] 0) :: (x', instObj 52 dx') :: (dx', dictOf (entryD w (.ref lu') (.ref lr') .none .none k1' k2' k3' k4') 4) :: ((ex2 ++ ex) ++ news)) := Upd.tail n1 (Upd.tail n2 (Upd.head Z4))
      k_dflt (refine' append_K ?k1 ?k2 U ?_ ?z; (case k1 => k_asm); (case k2 => k_asm); (case z => (rw [List.size_toArray, hrl, sizeLine_eq]; omega)))
      intro h3 F3 N5
      k_steps
      refine UnrEnd.intro F3 N5 ((79, tabObj ps2) :: (lr', listOf (refs.toArray.push (.ref r2)) (nn + 1)) :: (lu', listOf #[] 0) :: (x', instObj 52 dx') :: (dx', dictOf (entryD w (.ref lu') (.ref lr') .none .none k1' k2' k3' k4') 4) :: ((ex2 ++ ex) ++ news)) ?_ ?_ ⟨refs ++ [.ref r2], ps2, ex2 ++ ex, nn + 1, _, _, ?_, kt_turn _ _ _ _ _, ?_, ?_, ?_, ?_⟩
      · intro q hq
        simp only [List.mem_cons, List.mem_append, or_assoc, or_comm, or_left_comm] at hq ⊢; exact hq
      · intro q hq
        refine neN ?_
        rcases List.mem_cons.mp hq with rfl | hq
        · dsimp only; omega
        rcases List.mem_cons.mp hq with rfl | hq
        · dsimp only; omega
        rcases List.mem_cons.mp hq with rfl | hq
        · dsimp only; omega
        rcases List.mem_cons.mp hq with rfl | hq
        · dsimp only; omega
        rcases List.mem_cons.mp hq with rfl | hq
        · dsimp only; omega
        rcases List.mem_append.mp hq with hq | hq
        · rcases List.mem_append.mp hq with hq | hq
          · have := ltN (hlx q hq).2; omega
          · exact hI9 q hq
        · have := ltN (la' q (.tail _ hq)); omega
      · simp
      · rw [List.append_assoc]; exact I2
      · intro q hq
        rcases List.mem_append.mp hq with hq | hq
        · exact (hlx q hq).1
        · exact hex q hq
      · intro q hq
        rcases List.mem_append.mp hq with hq | hq
        · have := ltN (hlx q hq).2; exact Nat.ne_of_gt this
        · exact hI9 q hq
      · rw [List.range_succ, List.map_append]
        refine RulesIn.append (hR.mono fun q hq => ?_) ⟨?_, trivial⟩
        · simp only [List.mem_append] at hq ⊢; exact hq.elim (fun z => .inl (.inr z)) .inr
        · rw [List.append_assoc]
          first
            | (rw [turned_t ‹(Txt.item nm (1 + (i : Int)) == Str.ofString "0") = true›] at R2; exact R2)
            | (rw [turned_f ‹(Txt.item nm (1 + (i : Int)) == Str.ofString "0") = false›] at R2; exact R2))
  · rintro m led ⟨refs, ps', ex, nn, u, v, rfl, rfl, hI, hex, hI9, hR⟩ h9 tk9 F2 N3
    have hrl : refs.length = 8 := by rw [hR.length]; simp
    have Z3 : ∀ q ∈ ((lr', listOf (List.toArray refs) nn) :: (lu', listOf #[] 0) :: (x', instObj 52 dx') :: (dx', dictOf (entryD w (.ref lu') (.ref lr') .none .none k1' k2' k3' k4') 4) :: (ex ++ news)), q.1 ≠ 79 := fun q hq => by
        refine neN ?_
        rcases List.mem_cons.mp hq with rfl | hq
        · dsimp only; omega
        rcases List.mem_cons.mp hq with rfl | hq
        · dsimp only; omega
        rcases List.mem_cons.mp hq with rfl | hq
        · dsimp only; omega
        rcases List.mem_cons.mp hq with rfl | hq
        · dsimp only; omega
        rcases List.mem_append.mp hq with hq | hq
        · have := ltN (hex q hq); omega
        · exact Z q hq
    repeat' ((fail_if_success (with_reducible show wpAny _ _ (PySem.call (Value.ref 84) _) _ _ _)); (fail_if_success (with_reducible show wpAny _ _ (PySem.call (Value.builtin "list.append") _) _ _ _)); first | (k_unfold; (try dsimp only)) | (k_end; wrow_close) | walk1 | (dsimp only; walk1) | (leave1; walk_say "STEP leave1"; try dsimp only) | fail "no step")
    k_dflt (refine' rule_spec ?k1 ?k2 ?k3 ?k4 Z3 hI ?k7 ?k8 ?k9 ?k10 ?_; (case k1 => k_asm); (case k2 => k_asm); (case k3 => k_asm); (case k4 => k_asm); (case k7 => k_asm); (case k8 => exact rfl); (case k9 => ktr_room); (case k10 => ktr_units))
    intro r2 ps2 ex2 h2 tk2 Fr2 Nr2 lx2 I2 R2
    have hlx : ∀ q ∈ ex2, lr' < q.1 := fun q hq => lx2 q hq _ (.tail _ (.head _))
    have N4 : News g L' h2 ((79, tabObj ps2) :: (lr', listOf (List.toArray refs) nn) :: (lu', listOf #[] 0) :: (x', instObj 52 dx') :: (dx', dictOf (entryD w (.ref lu') (.ref lr') .none .none k1' k2' k3' k4') 4) :: ((ex2 ++ ex) ++ news)) := fun q hq => Nr2 q (by
      simp only [List.mem_cons, List.mem_append, or_assoc, or_comm, or_left_comm] at hq ⊢; exact hq)
    clear Nr2
    have Z4 : ∀ q ∈ ((lu', listOf #[] 0) :: (x', instObj 52 dx') :: (dx', dictOf (entryD w (.ref lu') (.ref lr') .none .none k1' k2' k3' k4') 4) :: ((ex2 ++ ex) ++ news)), q.1 ≠ lr' := fun q hq => by
      refine neN ?_
      rcases List.mem_cons.mp hq with rfl | hq
      · dsimp only; omega
      rcases List.mem_cons.mp hq with rfl | hq
      · dsimp only; omega
      rcases List.mem_cons.mp hq with rfl | hq
      · dsimp only; omega
      rcases List.mem_append.mp hq with hq | hq
      · rcases List.mem_append.mp hq with hq | hq
        · have := ltN (hlx q hq); omega
        · have := ltN (hex q hq); omega
      · have := ltN (la' q (.tail _ hq)); omega
    repeat' ((fail_if_success (with_reducible show wpAny _ _ (PySem.call (Value.builtin "list.append") _) _ _ _)); first | (k_unfold; (try dsimp only)) | (k_end; wrow_close) | walk1 | (dsimp only; walk1) | (leave1; walk_say "STEP leave1"; try dsimp only) | fail "no step")
    have n1 : (79 : Nat) ≠ lr' := by omega
    have U : Upd lr' (listOf (List.toArray refs) nn) (listOf (refs.toArray.push (.ref r2)) (nn + 1)) ((79, tabObj ps2) :: (lr', listOf (List.toArray refs) nn) :: (lu', listOf #[] 0) :: (x', instObj 52 dx') :: (dx', dictOf (entryD w (.ref lu') (.ref lr') .none .none k1' k2' k3' k4') 4) :: ((ex2 ++ ex) ++ news)) ((79, tabObj ps2) :: (lr', listOf (refs.toArray.push (.ref r2)) (nn + 1)) :: (lu', listOf #[] 0) :: (x', instObj 52 dx') :: (dx', dictOf (entryD w (.ref lu') (.ref lr') .none .none k1' k2' k3' k4') 4) :: ((ex2 ++ ex) ++ news)) := Upd.tail n1 (Upd.head Z4)
    k_dflt (refine' append_K ?k1 ?k2 U ?_ ?z; (case k1 => k_asm); (case k2 => k_asm); (case z => (rw [List.size_toArray, hrl, sizeLine_eq]; omega)))
    intro h3 F3 N5
    k_steps
    rename_i kF kN kT kX
    refine hret x' ps2 ((lr', listOf (refs.toArray.push (.ref r2)) (nn + 1)) :: (lu', listOf #[] 0) :: (x', instObj 52 dx') :: (dx', dictOf (entryD w (.ref lu') (.ref lr') .none .none k1' k2' k3' k4') 4) :: (ex2 ++ ex)) _ _ kF (fun q hq => kN q ?_) (fun q hq q' hq' => ?_) (I2.mono ?_) ⟨dx', lu', lr', refs ++ [.ref r2], nn + 1, 0, k1', k2', k3', k4', by simp, by simp, by simp, by simp, RulesIn.snoc (hR.mono ?_) (R2.mono ?_)⟩
    · simp only [List.mem_cons, List.mem_append, or_assoc, or_comm, or_left_comm] at hq ⊢; exact hq
    · have h0 := ltN (la' q' hq')
      refine ltN ?_
      rcases List.mem_cons.mp hq with rfl | hq
      · dsimp only; omega
      rcases List.mem_cons.mp hq with rfl | hq
      · dsimp only; omega
      rcases List.mem_cons.mp hq with rfl | hq
      · dsimp only; omega
      rcases List.mem_cons.mp hq with rfl | hq
      · dsimp only; omega
      rcases List.mem_append.mp hq with hq | hq
      · have := ltN (hlx q hq); omega
      · have := ltN (hex q hq); omega
    · exact sub3 (fun q hq => by simp [hq]) (fun q hq => by simp [hq]) (fun q hq => by simp [hq])
    · intro q hq
      rcases List.mem_append.mp hq with hq | hq <;> simp [hq]
    · exact sub3 (fun q hq => by simp [hq]) (fun q hq => by simp [hq]) (fun q hq => by simp [hq])
  · exact ⟨[], ps, [], 0, _, _, rfl, kt_init _, I, (fun _ h => nomatch h), (fun _ h => nomatch h), trivial⟩
end Mine
end
section
open PySem PySem.W PyProof.Rows PySem.Calls
set_option maxRecDepth 100000
set_option maxHeartbeats 2000000
namespace Mine
theorem sub_filter : isSubtype (.type "filter") (.type "filter") = pure true := by rw [isSubtype_type]; kernel_rfl
theorem sub_filter_object : isSubtype (.type "filter") (.type "object") = pure true := by rw [isSubtype_type]; kernel_rfl
theorem slot_fnext : Slot "filter" "__next__" "filter.__next__" := slotBy "filter" "__next__" (by kernel_rfl) (by decide +kernel) (by decide +kernel) sub_filter
theorem slot_fiter : Slot "filter" "__iter__" "filter.__iter__" := slotBy "filter" "__iter__" (by kernel_rfl) (by decide +kernel) (by decide +kernel) sub_filter
theorem slot_finit : Slot "filter" "__init__" "object.__init__" := slotBy "object" "__init__" (by kernel_rfl) (by decide +kernel) (by decide +kernel) sub_filter_object
theorem entry_fnext : entryFor table "filter.__next__" = some Builtin.«filter.__next__» := entryFor_of_tree (by kernel_rfl)
theorem entry_fnew : entryFor table "filter.__new__" = some Builtin.«filter.__new__» := entryFor_of_tree (by kernel_rfl)
theorem entry_fiter : entryFor table "filter.__iter__" = some Builtin.«dict_keyiterator.__iter__» := entryFor_alias (id' := "dict_keyiterator.__iter__") (by kernel_rfl) (by decide +kernel) (by decide +kernel) (by kernel_rfl)
theorem args_fnext (a : Value) : argsOk "filter.__next__" ⟨[a], []⟩ := by unfold argsOk; kernel_rfl
theorem args_fiter (a : Value) : argsOk "filter.__iter__" ⟨[a], []⟩ := by unfold argsOk; kernel_rfl
theorem args_finit (a b c : Value) : argsOk "object.__init__" ⟨[a, b, c], []⟩ := by unfold argsOk; kernel_rfl
theorem filter_no_len : typeLookup (.type "filter") "__len__" = pure none := lookBy (by kernel_rfl)
theorem filter_no_hint : typeLookup (.type "filter") "__length_hint__" = pure none := lookBy (by kernel_rfl)
theorem mro_filter : mroOf (.type "filter") = pure [.type "filter", .type "object"] := by rw [mroOf_type]; kernel_rfl
theorem called_filter : TypeCalled "filter" "filter.__new__" "object.__init__" where
  notType := by decide +kernel
  canCreate := by decide +kernel
  mro := ⟨_, _, mro_filter⟩
  made := madeBy_type mro_filter (lookBy (by kernel_rfl)) (by decide +kernel)
  plain := by decide +kernel
  sub := sub_filter
  init := slot_finit
abbrev filtObj (f : Value) (it : Addr) : Obj := { cls := .type "filter", data := .fields #[f, .ref it] }
abbrev litObj (l : Addr) : Obj := { cls := .type "list_iterator", data := .fields #[.ref l, .int 0 0] }
section
variable {prog : Program} {w : World} {A : Around} {E : Value → Shared → Prop} {s : Shared}
theorem meets_filter_new (f : Value) (l : Addr) (items : Array Value) :
    Meets (Builtin.«filter.__new__» ⟨[.type "filter", f, .ref l], []⟩) (fun _ R s => s.heap.IsList l items ∧
      R (.ok (.ret (.ref (s.heap.objs.size + 1)))) { s with heap := (s.heap.push (litObj l)).push (filtObj f s.heap.objs.size) }) :=
  .of_wp fun prog w A R s h => by
    obtain ⟨hl, h⟩ := h
    have sub := sub_filter
    wp_walk using wpAny_pyIter_list hl
    rw [Heap.size_push]
    exact ⟨_, rfl, h⟩
theorem call_filter {f : Value} {l : Addr} {items : Array Value} {Q : Value → Shared → Prop} (hl : s.heap.IsList l items)
    (h : Q (.ref (s.heap.objs.size + 1)) { s with heap := (s.heap.push (litObj l)).push (filtObj f s.heap.objs.size) }) : wpAny (model prog w) A (call (.type "filter") [f, .ref l]) Q E s := by
  refine callType_new called_filter (by decide) (by kernel_rfl) (by kernel_rfl) (fun _ => args_finit _ _ _) entry_fnew (meets_filter_new f l items) ⟨hl, ?_⟩
  exact ⟨⟨_, Heap.get?_push_at (Heap.size_push ..).symm rfl, rfl⟩, h⟩

/-- what a step leaves: all but the iterator's own cell -/
def Kept (it : Addr) (a b : Heap) : Prop := ∀ x o, x ≠ it → a.get? x = some o → b.get? x = some o
theorem lit_dry {hp : Heap} {g d tk os} {it l : Addr} {n : Nat} {P : Fin → Shared → Prop} (hh : A.handled = none) (hit : hp.get? it = some (litObj l)) (hl : hp.get? l = some (listOf #[] n))
    (hE : ∀ h' e, (∃ o, h'.get? e = some o ∧ o.cls = .type "StopIteration") → Kept it hp h' → E (.ref e) ⟨h', g, d, tk, os⟩) :
    wpAny (model prog w) A (Builtin.«list_iterator.__next__» ⟨[.ref it], []⟩) P E ⟨hp, g, d, tk, os⟩ := by
  wp_walk
  unfold raiseNew
  wp_walk
  refine hE _ _ ⟨_, by heap_get, rfl⟩ fun x o hx ho => ?_
  exact Heap.get?_push_of_some _ (Heap.get?_push_of_some _ ((Heap.get?_update_other _ _ (Ne.symm hx)).trans ho))
theorem filt_dry {hp : Heap} {g d tk os} {z it l : Addr} {n : Nat} {f : Value} {Q : Option Value → Shared → Prop} (hh : A.handled = none) (hz : hp.get? z = some (filtObj f it)) (hit : hp.get? it = some (litObj l)) (hl : hp.get? l = some (listOf #[] n))
    (hQ : ∀ h', Kept it hp h' → Q none ⟨h', g, d, tk, os⟩) : wpAny (model prog w) A (pyNext (.ref z)) Q E ⟨hp, g, d, tk, os⟩ := by
  have tz : Shared.TypeIs ⟨hp, g, d, tk, os⟩ (.ref z) "filter" := ⟨_, hz, rfl⟩
  have ti : Shared.TypeIs ⟨hp, g, d, tk, os⟩ (.ref it) "list_iterator" := ⟨_, hit, rfl⟩
  unfold pyNext
  refine wpAny_bind (wpAny_attempt (wpAny_callSpecial?_slot tz slot_fnext (wpAny_call_entry slot_fnext tz entry_fnext ?_ (args_fnext _))))
  repeat ((fail_if_success (with_reducible show wpAny _ _ (callSpecial? _ _ _ _) _ _ _)); wp_step)
  refine wpAny_callSpecial?_slot ti slot_listiter_next (wpAny_call_entry slot_listiter_next ti entry_listiter_next (lit_dry (by simpa using hh) hit hl fun h' e he hk => ?_) (args_listiter_next _))
  obtain ⟨o, ho, hc⟩ := he
  have te : Shared.TypeIs ⟨h', g, d, tk, os⟩ (.ref e) "StopIteration" := ⟨o, ho, hc⟩
  have se := isSubtype_stop
  wp_walk
  exact hQ h' hk
theorem filt_self {hp : Heap} {g d tk os} {z it : Addr} {f : Value} {Q : Value → Shared → Prop} (hz : hp.get? z = some (filtObj f it)) (h : Q (.ref z) ⟨hp, g, d, tk, os⟩) : wpAny (model prog w) A (pyIter (.ref z)) Q E ⟨hp, g, d, tk, os⟩ := by
  have tz : Shared.TypeIs ⟨hp, g, d, tk, os⟩ (.ref z) "filter" := ⟨_, hz, rfl⟩
  refine wpAny_pyIter_slot tz slot_fiter (wpAny_call_entry slot_fiter tz entry_fiter ?_ (args_fiter _))
  wp_walk
  exact ⟨_, rfl, "filter", _, tz, slot_fnext.lookup, h⟩
/-- list.__init__ of a new list on a dry filter: the list stays empty -/
theorem init_dry {hp : Heap} {g d tk os} {S z it l : Addr} {n : Nat} {f : Value} {R : Result → Shared → Prop} (hh : A.handled = none) (hS : hp.get? S = some (listOf #[] 0)) (hz : hp.get? z = some (filtObj f it)) (hit : hp.get? it = some (litObj l)) (hl : hp.get? l = some (listOf #[] n))
    (hSz : S ≠ z) (hSi : S ≠ it) (hSl : S ≠ l)
    (hR : ∀ h' c, h'.get? S = some (listOf #[] c) → (∀ x o, x ≠ S → x ≠ it → hp.get? x = some o → h'.get? x = some o) → R (.ok (.ret .none)) ⟨h', g, d, tk, os⟩) :
    wpAny (model prog w) A.in1 (Builtin.«list.__init__» ⟨[.ref S, .ref z], []⟩)
      (fun fin s' => match fin with | .done fl => R (.ok fl) s' | .again c' => c'.quiet = true ∧ codeAny (model prog w) A c' R s') (fun e s' => R (.error e) s') ⟨hp, g, d, tk, os⟩ := by
  wp_walk
  have hz1 : (hp.update S (Obj.mapSeq fun _ => #[])).get? z = some (filtObj f it) := (Heap.get?_update_other _ _ hSz).trans hz
  have tz1 : Shared.TypeIs ⟨hp.update S (Obj.mapSeq fun _ => #[]), g, d, tk, os⟩ (.ref z) "filter" := ⟨_, hz1, rfl⟩
  have c0 : (Builtin.List.listSameRef (Value.ref S) (Value.ref z) || (filtObj f it).cls == Value.type "list" || (filtObj f it).cls == Value.type "tuple") = false := by
    simp [Builtin.List.listSameRef, hSz]
  rw [c0]
  have k1 := filter_no_len
  have k2 := filter_no_hint
  wp_walk using filt_self hz1
  obtain ⟨H, eH⟩ : ∃ H, H = ((hp.update S (Obj.mapSeq fun _ => #[])).update S (Obj.mapSeq fun x => x.push Value.none)).update S (Obj.mapSeq fun x => x.pop) := ⟨_, rfl⟩
  have up : ∀ x, S ≠ x → H.get? x = hp.get? x := fun x hx => by
    rw [eH, Heap.get?_update_other _ _ hx, Heap.get?_update_other _ _ hx, Heap.get?_update_other _ _ hx]
  have mine : ∃ c, H.get? S = some (listOf #[] c) := by
    rw [eH]
    exact ⟨_, Heap.get?_update_self _ (Heap.get?_update_self _ (Heap.get?_update_self _ hS rfl) rfl) rfl⟩
  rw [← eH]
  clear eH c0 tz1 hz1
  refine ⟨plainId_quiet F.plain_extend_loop _, codeAny_builtin F.entry_extend_loop ?_⟩
  rw [Around.under_plainId F.plain_extend_loop _]
  wp_walk using filt_dry (A := A.in1) (by simpa using hh) ((up z hSz).trans hz) ((up it hSi).trans hit) ((up l hSl).trans hl)
  intro h' hk
  wp_walk
  obtain ⟨c, hc⟩ := mine
  exact hR h' c (hk _ _ hSi hc) fun x o h1 h2 ho => hk x o h2 ((up x (Ne.symm h1)).trans ho)
/-- list(filter(f, [])) -/
theorem list_of_filter {z it l : Addr} {n : Nat} {f : Value} {Q : Value → Shared → Prop} (hh : A.handled = none) (hz : s.heap.get? z = some (filtObj f it)) (hit : s.heap.get? it = some (litObj l)) (hl : s.heap.get? l = some (listOf #[] n))
    (h : ∀ h' c, h'.get? s.heap.objs.size = some (listOf #[] c) → Kept it s.heap h' → Q (.ref s.heap.objs.size) { s with heap := h' }) :
    wpAny (model prog w) A (call (.type "list") [.ref z]) Q E s := by
  obtain ⟨hp, g, d, tk, os⟩ := s
  have fresh : ∀ {x : Addr} {o : Obj}, hp.get? x = some o → hp.objs.size ≠ x := fun e q => absurd (Heap.lt_size e) (by rw [q]; exact Nat.lt_irrefl _)
  refine callType_codes F.called_list (F.typeCall_list_1 _) F.entry_list_init (Q₁ := fun v t => v = .ref hp.objs.size ∧ t = ⟨hp.push (listOf #[] 0), g, d, tk, os⟩) (code_list_new _ (And.intro rfl rfl)) ?_
  rintro _ _ ⟨rfl, rfl⟩
  have hS : (hp.push (listOf #[] 0)).get? hp.objs.size = some (listOf #[] 0) := Heap.get?_push_size _ rfl
  refine ⟨⟨_, hS, rfl⟩, F.args_list_init_2 _ _, init_dry (A := A.in1) (by simpa using hh) hS (Heap.get?_push_of_some _ hz) (Heap.get?_push_of_some _ hit) (Heap.get?_push_of_some _ hl) (fresh hz) (fresh hit) (fresh hl) ?_⟩
  exact fun h' c hc hk => ⟨rfl, h h' c hc fun x o hx ho => hk x o (Ne.symm (fresh ho)) hx (Heap.get?_push_of_some _ ho)⟩
end
end Mine
end
section
open PySem PySem.W PyProof.Rows PySem.Calls
set_option maxRecDepth 100000
set_option maxHeartbeats 2000000
namespace Mine
section
variable {prog : Program} {w : World} {A : Around} {E : Value → Shared → Prop} {s : Shared}
theorem sub_md : isSubtype (.type "method_descriptor") (.type "method_descriptor") = pure true := by rw [isSubtype_type]; kernel_rfl
theorem slot_mdget : Slot "method_descriptor" "__get__" "method_descriptor.__get__" := slotBy "method_descriptor" "__get__" (by kernel_rfl) (by decide +kernel) (by decide +kernel) sub_md
theorem entry_mdget : entryFor table "method_descriptor.__get__" = some Builtin.«method_descriptor.__get__» := entryFor_of_tree (by kernel_rfl)
theorem args_mdget (a b c : Value) : argsOk "method_descriptor.__get__" ⟨[a, b, c], []⟩ := by unfold argsOk; kernel_rfl
theorem md_noset : typeLookup (.type "method_descriptor") "__set__" = pure none := lookBy (by kernel_rfl)
theorem md_nodel : typeLookup (.type "method_descriptor") "__delete__" = pure none := lookBy (by kernel_rfl)
abbrev bmObj (S : Addr) : Obj := { cls := .type "builtin_function_or_method", data := .fields #[.builtin "set.__contains__", .ref S] }
theorem run_mdget {S : Addr} {o : Obj} (hS : s.heap.get? S = some o) (hc : o.cls = .type "set") {P : Fin → Shared → Prop} (h : P (.done (.ret (.ref s.heap.objs.size))) { s with heap := s.heap.push (bmObj S) }) :
    wpAny (model prog w) A (Builtin.«method_descriptor.__get__» ⟨[.builtin "set.__contains__", .ref S, .type "set"], []⟩) P E s := by
  have hT : s.TypeIs (.ref S) "set" := ⟨_, hS, hc⟩
  unfold Builtin.«method_descriptor.__get__»
  refine wpAny_bind (wpAny_of_eq (a := (.builtin "set.__contains__", some (.ref S), some (.type "set"))) (by first | rfl | kernel_rfl) ?_)
  dsimp only
  have ht : Manifest.toldItsClass.contains "set.__contains__" = false := by decide +kernel
  rw [ht]
  simp only [Bool.false_eq_true, if_false]
  refine wpAny_bind (wpAny_bind (wpAny_of_eq (a := (Str.ofString "__contains__", .type "set")) (by first | rfl | kernel_rfl) ?_))
  refine wpAny_bind (wpAny_isInstance (T := "set") (b := true) hT (by rw [isSubtype_type]; kernel_rfl) ?_)
  refine wpAny_pure ?_
  exact wpAny_bind (wpAny_newObj_type (wpAny_pure h) (by size_fits))

open Builtin.ObjectAttr in
theorem get_contains {S : Addr} {o : Obj} {expr : Bool} {Q : Value → Shared → Prop} (hS : s.heap.get? S = some o) (hc : o.cls = .type "set") (hd : o.dict = none) (hnc : ∀ c, o.data ≠ .cls c)
    (h : Q (.ref s.heap.objs.size) { s with heap := s.heap.push (bmObj S), toks := s.toks + 1 }) : wpAny (model prog w) A (getAttr (.ref S) (Str.ofString "__contains__") expr) Q E s := by
  obtain ⟨hh, g, dd, t, os⟩ := s
  have ty : Looks (model prog w) hh (typeOf (.ref S)) (.type "set") := hc ▸ (Looks.ld hS).andThen .now
  have sub : isSubtype (.type "set") (.type "set") = pure true := by rw [isSubtype_type]; kernel_rfl
  unfold getAttr getAttrBy
  refine wpAny_bind (wpAny_mkText (wpAny_holding (wpAny_bind (ty.at (wpAny_bind ((Looks.of_pure F.slot_set_getattribute.lookup).at ?_))))))
  show wpAny _ _ (getAttrByItsOwn _ _ _ _ _ _) _ _ _
  unfold getAttrByItsOwn
  refine wpAny_bind (wpAny_pure ?_)
  refine wpAny_bind (wpAny_attempt ?_)
  refine wpAny_holding ?_
  unfold callGetattribute
  have hx : (expr && onTheHeap (.builtin "set.__getattribute__")) = false := by cases expr <;> rfl
  rw [hx]
  show wpAny _ _ (boundAndCalled _ _ _) _ _ _
  unfold boundAndCalled
  rw [F.slot_set_getattribute.bind]
  refine wpAny_bind (wpAny_pure (wpAny_call (codeAny_call_builtin F.slot_set_getattribute.plain F.entry_set_ga (@check_slot (model prog w) _ _ _ "set.__getattribute__" "set" "__getattribute__" (.ref S) [.str (Str.ofString "__contains__") t] [] _ (by decide +kernel) (by decide +kernel) (ty.andThen (Looks.of_pure sub)) (F.args_set_getattribute_2 (.ref S) (.str (Str.ofString "__contains__") t)) ?_))))
  show wpAny (model prog w) A.in1 (Builtin.«object.__getattribute__» ⟨[.ref S, .str (Str.ofString "__contains__") t], []⟩) _ _ _
  unfold Builtin.«object.__getattribute__»
  refine wpAny_bind (wpAny_pure (wpAny_bind (wpAny_pure (wpAny_bind (ty.at (wpAny_bind ?_))))))
  have own : Looks (model prog w) hh (inOwnDict (Str.ofString "__contains__") (.ref S)) none := by
    have ld : Looks (model prog w) hh (ownDict S) none := by
      refine (Looks.ld hS).andThen ?_
      have : Looks (model prog w) hh (instanceDict S false) none := by
        refine (Looks.ld hS).andThen ?_
        rw [hc, hd]
        exact .now
      obtain ⟨c, d, dt, sl⟩ := o
      cases dt <;> first | exact this | exact absurd rfl (hnc _)
    exact ld.andThen .now
  have gt : Looks (model prog w) hh (getOf (some (.builtin "set.__contains__"))) (some (.builtin "method_descriptor.__get__")) := (Looks.of_pure F.type_set_contains).andThen (Looks.of_pure slot_mdget.lookup)
  have ts : Looks (model prog w) hh (takesStores (.builtin "set.__contains__")) false := by
    have sp : ∀ {nm : Str}, typeLookup (.type "method_descriptor") nm = pure none → Looks (model prog w) hh (specialOf (.builtin "set.__contains__") nm) none := fun e => (Looks.of_pure F.type_set_contains).andThen (Looks.of_pure e)
    exact (sp md_noset).andThen ((sp md_nodel).andThen .now)
  have fnd : Looks (model prog w) hh (find (.ref S) (.type "set") (Str.ofString "__contains__")) (.bind (.builtin "method_descriptor.__get__") (.builtin "set.__contains__")) :=
    (Looks.of_pure F.slot_set_contains.lookup).andThen (gt.andThen ((show Looks (model prog w) hh (dataDescriptor? (some (.builtin "set.__contains__")) (some (.builtin "method_descriptor.__get__"))) none from ts.andThen .now).andThen (own.andThen (Looks.now.andThen (Looks.tag .now)))))
  refine fnd.at ?_
  show wpAny _ _ (bindTo (.builtin "method_descriptor.__get__") (.builtin "set.__contains__") (.ref S) (.type "set")) _ _ _
  show wpAny _ _ (holding [.builtin "set.__contains__"] (call (.builtin "method_descriptor.__get__") [.builtin "set.__contains__", .ref S, .type "set"]) >>= ret) _ _ _
  refine wpAny_bind (wpAny_holding ?_)
  refine wpAny_call_entry slot_mdget F.type_set_contains entry_mdget ?_ (args_mdget _ _ _)
  refine run_mdget (s := ⟨hh, g, dd, t + 1, os⟩) hS hc ?_
  exact ⟨_, rfl, wpAny_pure (wpAny_pure h)⟩
end
end Mine
end
section
open PySem PySem.W PyProof.Rows PySem.Calls
set_option maxRecDepth 100000
set_option maxHeartbeats 4000000
namespace Mine

section
variable {prog : Program} {w : World} {A : Around} {E : Value → Shared → Prop} {s : Shared} {h₀ : Heap} {L l : Addr} {m : Str → Option Value} {news : Led}
theorem keep_fr {h' : Heap} {x : Addr} (F : Fr h₀ L s.heap m) (hx : L ≠ x) (hx0 : h₀.get? x = none) (hk : Kept x s.heap h') : Fr h₀ L h' m :=
  ⟨F.ns.at' fun o e => hk L o hx e, fun b o e => hk b o (fun q => by rw [q, hx0] at e; cases e) (F.keep b o e), F.above⟩
/-- the ledger after a step that makes one object and touches x alone -/
theorem one_more {h' : Heap} {o : Obj} {x : Addr} {old : Led} (F : Fr h₀ L s.heap m) (N : News h₀ L s.heap old) (sub : ∀ p ∈ news, p ∈ old) (off : ∀ p ∈ news, p.1 ≠ x) (ho : h'.get? s.heap.objs.size = some o) (hk : Kept x s.heap h') :
    News h₀ L h' ((s.heap.objs.size, o) :: news)
  | _, .head _ => ⟨ho, ((N.push F (listOf #[] 0)) _ (.head _)).2⟩
  | p, .tail _ hp => ⟨hk _ _ (off p hp) (N p (sub p hp)).1, (N p (sub p hp)).2⟩
theorem set_empty {n : Nat} {Q : Value → Shared → Prop} (F : Fr h₀ L s.heap m) (N : News h₀ L s.heap news) (hh : A.handled = none) (hl : (l, listOf #[] n) ∈ news)
    (h : ∀ S o h' tk, Fr h₀ L h' m → News h₀ L h' ((S, o) :: news) → o.cls = .type "set" → o.dict = none → (∀ c, o.data ≠ .cls c) → (∀ p ∈ news, p.1 < S) → Q (.ref S) { s with heap := h', toks := tk }) :
    wpAny (model prog w) A (call (.type "set") [.ref l]) Q E s := by
  have top := ((N.push F (listOf #[] 0)) _ (.head _)).2
  have low : ∀ p ∈ news, p.1 < s.heap.objs.size := fun p hp => Heap.lt_size (N p hp).1
  refine PySem.call_set_list (items := #[]) (ns := []) hh ⟨_, (N _ hl).1, rfl, n, rfl⟩ .nil (by decide) fun h' tk made old => ?_
  have kept : Kept s.heap.objs.size s.heap h' := fun b o _ e => old b o (Heap.lt_size e) e
  obtain ⟨o, ho, so⟩ := made.objOf
  refine h _ o h' tk (keep_fr F (Ne.symm top.1) top.2 kept) (one_more F N (fun _ z => z) (fun p hp => Nat.ne_of_lt (low p hp)) ho kept) so.1.1 so.1.2.1 (fun c e => ?_) low
  obtain ⟨_, _, _, _, hd, _⟩ := so
  cases hd.symm.trans e
theorem contains_N {S : Addr} {o : Obj} {expr : Bool} {Q : Value → Shared → Prop} (F : Fr h₀ L s.heap m) (N : News h₀ L s.heap ((S, o) :: news)) (hc : o.cls = .type "set") (hd : o.dict = none) (hnc : ∀ c, o.data ≠ .cls c)
    (h : ∀ bm h', Fr h₀ L h' m → News h₀ L h' ((bm, bmObj S) :: news) → (∀ p ∈ news, p.1 < bm) → Q (.ref bm) { s with heap := h', toks := s.toks + 1 }) :
    wpAny (model prog w) A (getAttr (.ref S) (Str.ofString "__contains__") expr) Q E s :=
  get_contains (N _ (.head _)).1 hc hd hnc (h _ _ (F.push _) (fun p hp => (N.push F _) p (by
    rcases List.mem_cons.mp hp with rfl | hp
    · exact .head _
    · exact .tail _ (.tail _ hp))) fun p hp => Heap.lt_size (N p (.tail _ hp)).1)
theorem filter_N {n : Nat} {f : Value} {Q : Value → Shared → Prop} (F : Fr h₀ L s.heap m) (N : News h₀ L s.heap news) (hl : (l, listOf #[] n) ∈ news)
    (h : ∀ z it h', Fr h₀ L h' m → News h₀ L h' ((z, filtObj f it) :: (it, litObj l) :: news) → (∀ p ∈ news, p.1 < it) → it < z → Q (.ref z) { s with heap := h' }) :
    wpAny (model prog w) A (call (.type "filter") [f, .ref l]) Q E s := by
  refine call_filter (items := #[]) ⟨_, (N _ hl).1, rfl, n, rfl⟩ ?_
  have N1 := N.push F (litObj l)
  have N2 := N1.push (F.push _) (filtObj f s.heap.objs.size)
  rw [Heap.size_push] at N2
  exact h _ _ _ ((F.push _).push _) N2 (fun p hp => Heap.lt_size (N p hp).1) (Nat.lt_succ_self _)
theorem listfilter_N {n : Nat} {f : Value} {z it : Addr} {Q : Value → Shared → Prop} (F : Fr h₀ L s.heap m) (N : News h₀ L s.heap ((z, filtObj f it) :: (it, litObj l) :: news)) (hh : A.handled = none) (hl : (l, listOf #[] n) ∈ news) (hlt : ∀ p ∈ news, p.1 < it)
    (h : ∀ D c h' tk, Fr h₀ L h' m → News h₀ L h' ((D, listOf #[] c) :: news) → (∀ p ∈ news, p.1 < D) → Q (.ref D) { s with heap := h', toks := tk }) :
    wpAny (model prog w) A (call (.type "list") [.ref z]) Q E s := by
  have hit := N _ (.tail _ (.head _))
  refine list_of_filter hh (N _ (.head _)).1 hit.1 (N _ (.tail _ (.tail _ hl))).1 fun h' c hD kept => ?_
  exact h _ c h' s.toks (keep_fr F (Ne.symm hit.2.1) hit.2.2 kept) (one_more F N (fun _ y => .tail _ (.tail _ y)) (fun p hp => Nat.ne_of_lt (hlt p hp)) hD kept) fun p hp => Heap.lt_size (N p (.tail _ (.tail _ hp))).1
end
local macro_rules | `(tactic| k_room) => `(tactic| ktr_room)
local macro_rules | `(tactic| k_mem) => `(tactic| assumption)
theorem merge_spec {w : World} {p : Program} {loose : List Str} {mean : ExcName → Option Value} {mg mb : Str → Option Value} {news : Led}
  {dp un : Nat} {gd : Option (List Code)} {cn : Str} {cs : Scope} {a : Addr} {ccd : Value} {cl : List (Str × Addr)} {outer : List Env} {A₀ : Around} {base h₀ : Heap} {L : Addr} {m : Str → Option Value} {s : Shared} {Q E : Value → Shared → Prop}
  (B : Below A₀ base outer h₀) (F : Fr h₀ L s.heap m) (X : (hd.heap_39 w.params).In h₀) (T : Top p loose mean mg mb h₀) (hk : cs.kind = .function) {e1 e2 : Addr} {r1 r2 : List (Str × Bool)} (N : News h₀ L s.heap news) (Y1 : EntryIn w news e1 r1) (Y2 : EntryIn w news e2 r2)
  (hdp : dp + 4 < recursionLimit) (hu : un + 12 < cLine) (hrl : r1.length + r2.length ≤ 1000)
  (hret : ∀ x ex h' tk, Fr h₀ L h' m → News h₀ L h' (ex ++ news) → (∀ q ∈ ex, ∀ q' ∈ news, q'.1 < q.1) → EntryIn w (ex ++ news) x (r1 ++ r2) → Q (.ref x) { s with heap := h', toks := tk }) :
    wpAny (model PySem.Challenge.rw_ny0467_01.row.prog w) (ktrTop dp un gd cn cs L a ccd cl outer) (call (.ref 63) [.ref e1, .ref e2]) Q E s := by
  k_with_none
  w_top off
  k_with "call ref" => (k_dflt (refine' entry_new ?k1 ?k2 ?k3 ?k4 ?k5 ?k6 ?k7 ?k8 ?_; (case k1 => k_asm); (case k2 => k_asm); (case k3 => k_asm); (case k4 => k_asm); (case k5 => k_asm); (case k6 => exact rfl); (case k7 => ktr_room); (case k8 => ktr_units)); intro x' dx' lu' lr' k1' k2' k3' k4' h' tk' F' N' la' lb' lc' ld'; (try dsimp only); (try k_fold))
  revert X; k_fill; intro X
  obtain ⟨d1, u1, l1, v1, n1, m1, a1, a2, a3, a4, y1, y2, y3, y4, y5⟩ := Y1
  obtain ⟨d2, u2, l2, v2, n2, m2, b1, b2, b3, b4, z1, z2, z3, z4, z5⟩ := Y2
  refine wpAny_call ?_
  k_dflt (refine' code_def ?k1 ?k2 ?k3 ?k4 ?k5 ?kA ?kF ?kK ?k6 ?k7 ?k8 ?k9 ?kB ?_ ?c2 ?c3 ?c4 ?c5; (case kA => exact rfl); (case kF => exact rfl); (case kK => assumption); (case k1 => k_asm); (case k2 => k_asm); (case k3 => k_asm); (case k4 => k_asm); (case k5 => k_asm); (case k6 => k_is); (case k7 => k_is); (case k8 => ktr_room); (case k9 => exact BindsTo.of_eq rfl); (case c5 => decide); (case kB => exact locs rfl); (case c2 => exact rfl); (case c3 => exact rfl); (case c4 => exact rfl); k_whole; intro g L' hE FG FE NE BE XE TE; (try dsimp only); (try k_lift BE); (try k_fold))
  repeat' ((fail_if_success (with_reducible show wpAny _ _ (PySem.call (Value.type "set") _) _ _ _)); (fail_if_success (with_reducible show wpAny _ _ (PySem.getAttr (Value.ref _) (Str.ofString "__contains__") _) _ _ _)); (fail_if_success (with_reducible show wpAny _ _ (PySem.call (Value.type "filter") _) _ _ _)); (fail_if_success (with_reducible show wpAny _ _ (PySem.call (Value.type "list") _) _ _ _)); first | (k_unfold; (try dsimp only)) | (k_end; wrow_close) | walk1 | (dsimp only; walk1) | (leave1; walk_say "STEP leave1"; try dsimp only) | fail "no step")
  have la2 := allLt_of la'
  have lb2 := ltN lb'
  have lc2 := ltN lc'
  have ld2 := ltN ld'
  k_dflt (refine' set_empty ?k1 ?k2 ?k3 (.tail _ (.tail _ (.tail _ (.tail _ z3)))) ?_; (case k1 => k_asm); (case k2 => k_asm); (case k3 => exact rfl))
  intro S oS hS tkS FS NS cS dS ncS lS
  repeat' ((fail_if_success (with_reducible show wpAny _ _ (PySem.call (Value.type "set") _) _ _ _)); (fail_if_success (with_reducible show wpAny _ _ (PySem.getAttr (Value.ref _) (Str.ofString "__contains__") _) _ _ _)); (fail_if_success (with_reducible show wpAny _ _ (PySem.call (Value.type "filter") _) _ _ _)); (fail_if_success (with_reducible show wpAny _ _ (PySem.call (Value.type "list") _) _ _ _)); first | (k_unfold; (try dsimp only)) | (k_end; wrow_close) | walk1 | (dsimp only; walk1) | (leave1; walk_say "STEP leave1"; try dsimp only) | fail "no step")
  k_dflt (refine' contains_N ?k1 ?k2 cS dS ncS ?_; (case k1 => k_asm); (case k2 => k_asm))
  intro bm hB FB NB lB
  repeat' ((fail_if_success (with_reducible show wpAny _ _ (PySem.call (Value.type "set") _) _ _ _)); (fail_if_success (with_reducible show wpAny _ _ (PySem.getAttr (Value.ref _) (Str.ofString "__contains__") _) _ _ _)); (fail_if_success (with_reducible show wpAny _ _ (PySem.call (Value.type "filter") _) _ _ _)); (fail_if_success (with_reducible show wpAny _ _ (PySem.call (Value.type "list") _) _ _ _)); first | (k_unfold; (try dsimp only)) | (k_end; wrow_close) | walk1 | (dsimp only; walk1) | (leave1; walk_say "STEP leave1"; try dsimp only) | fail "no step")
  k_dflt (refine' filter_N ?k1 ?k2 (.tail _ (.tail _ (.tail _ (.tail _ (.tail _ y3))))) ?_; (case k1 => k_asm); (case k2 => k_asm))
  intro zf it hF FF NF lF1 lF2
  repeat' ((fail_if_success (with_reducible show wpAny _ _ (PySem.call (Value.type "set") _) _ _ _)); (fail_if_success (with_reducible show wpAny _ _ (PySem.getAttr (Value.ref _) (Str.ofString "__contains__") _) _ _ _)); (fail_if_success (with_reducible show wpAny _ _ (PySem.call (Value.type "filter") _) _ _ _)); (fail_if_success (with_reducible show wpAny _ _ (PySem.call (Value.type "list") _) _ _ _)); first | (k_unfold; (try dsimp only)) | (k_end; wrow_close) | walk1 | (dsimp only; walk1) | (leave1; walk_say "STEP leave1"; try dsimp only) | fail "no step")
  k_dflt (refine' listfilter_N ?k1 ?k2 ?k3 (.tail _ (.tail _ (.tail _ (.tail _ (.tail _ y3))))) lF1 ?_; (case k1 => k_asm); (case k2 => k_asm); (case k3 => exact rfl))
  intro D cD hD tkD FD ND lD
  have ND2 : News g L' hD ((D, listOf #[] cD) :: (lr', listOf #[] 0) :: (lu', listOf #[] 0) :: (x', instObj 52 dx') :: (dx', dictOf (entryD w (.ref lu') (.ref lr') .none .none k1' k2' k3' k4') 4) :: news) := fun q hq => ND q (by
    rcases List.mem_cons.mp hq with rfl | hq
    · exact .head _
    · exact .tail _ (.tail _ hq))
  have lD2 := ltN (lD _ (.tail _ (.head _)))
  dsimp only at lD2
  clear ND lD
  repeat' ((fail_if_success (with_reducible show wpAny _ _ (PySem.call (Value.type "set") _) _ _ _)); (fail_if_success (with_reducible show wpAny _ _ (PySem.getAttr (Value.ref _) (Str.ofString "__contains__") _) _ _ _)); (fail_if_success (with_reducible show wpAny _ _ (PySem.call (Value.type "filter") _) _ _ _)); (fail_if_success (with_reducible show wpAny _ _ (PySem.call (Value.type "list") _) _ _ _)); (fail_if_success (with_reducible show wpAny _ _ (PySem.binaryOp Operator.Add _ _) _ _ _)); first | (k_unfold; (try dsimp only)) | (k_end; wrow_close) | walk1 | (dsimp only; walk1) | (leave1; walk_say "STEP leave1"; try dsimp only) | fail "no step")
  have len1 : v1.length = r1.length := y5.length
  have len2 : v2.length = r2.length := z5.length
  k_dflt (refine' kmk_add_lit (its := List.toArray v1) (its2 := List.toArray v2) (zs := v1 ++ v2) ?k1 ?k2 ?k3 ?k4 rfl ?_ ?k5; (case k1 => k_asm); (case k2 => k_asm); (case k3 => exact ⟨_, (News.get ‹News g L' _ _› (.tail _ (.tail _ (.tail _ (.tail _ (.tail _ y4)))))), rfl, n1, rfl⟩); (case k4 => exact ⟨_, (News.get ‹News g L' _ _› (.tail _ (.tail _ (.tail _ (.tail _ (.tail _ z4)))))), rfl, n2, rfl⟩); (case k5 => (show v1.length + v2.length ≤ sizeLine; rw [len1, len2, sizeLine_eq]; omega)))
  intro D2 hD2 FD2 ND2 lD3
  have lD4 := ltN (lD3 _ (.head _))
  dsimp only at lD4
  k_steps
  rename_i kF kN kT kX
  refine hret x' [(D2, listOf (List.toArray (v1 ++ v2)) 0), (D, listOf #[] cD), (x', instObj 52 dx'), (dx', dictOf (entryD w (.ref D) (.ref D2) .none .none k1' k2' k3' k4') 4)] _ _ kF (fun q hq => kN q ?_) (fun q hq q' hq' => ?_)
    ⟨dx', D, D2, v1 ++ v2, 0, cD, k1', k2', k3', k4', .tail _ (.tail _ (.head _)), .tail _ (.tail _ (.tail _ (.head _))), .tail _ (.head _), .head _, (y5.mono fun q hq => List.mem_append_right _ hq).append (z5.mono fun q hq => List.mem_append_right _ hq)⟩
  · rcases List.mem_cons.mp hq with rfl | hq
    · exact .head _
    rcases List.mem_cons.mp hq with rfl | hq
    · exact .tail _ (.head _)
    rcases List.mem_cons.mp hq with rfl | hq
    · exact .tail _ (.tail _ (.tail _ (.tail _ (.head _))))
    rcases List.mem_cons.mp hq with rfl | hq
    · exact .tail _ (.tail _ (.tail _ (.tail _ (.tail _ (.head _)))))
    · exact .tail _ (.tail _ (.tail _ (.tail _ (.tail _ (.tail _ hq)))))
  · have h0 := ltN (la' q' hq')
    refine ltN ?_
    rcases List.mem_cons.mp hq with rfl | hq
    · dsimp only; omega
    rcases List.mem_cons.mp hq with rfl | hq
    · dsimp only; omega
    rcases List.mem_cons.mp hq with rfl | hq
    · dsimp only; omega
    rcases List.mem_cons.mp hq with rfl | hq
    · dsimp only; omega
    · cases hq
end Mine
end
section
open PySem PySem.W PyProof.Rows PySem.Calls
set_option maxRecDepth 100000
set_option maxHeartbeats 4000000
namespace Mine

local macro_rules | `(tactic| k_room) => `(tactic| ktr_room)
local macro_rules | `(tactic| k_mem) => `(tactic| assumption)
def mergedRules (r1 r2 r3 r4 : List (Str × Bool)) (way : Int) : List (Str × Bool) := if way = 0 then (r1 ++ r2) ++ (r4 ++ r3) else (r3 ++ (r1 ++ r2)) ++ r4
theorem merged_spec {w : World} {p : Program} {loose : List Str} {mean : ExcName → Option Value} {mg mb : Str → Option Value} {news : Led}
  {dp un : Nat} {gd : Option (List Code)} {cn : Str} {cs : Scope} {a : Addr} {ccd : Value} {cl : List (Str × Addr)} {outer : List Env} {A₀ : Around} {base h₀ : Heap} {L : Addr} {m : Str → Option Value} {s : Shared} {Q E : Value → Shared → Prop}
  (B : Below A₀ base outer h₀) (F : Fr h₀ L s.heap m) (X : (hd.heap_39 w.params).In h₀) (T : Top p loose mean mg mb h₀) (hk : cs.kind = .function) {lr e1 e2 e3 e4 : Addr} {nn : Nat} {way : Int} {t : Tok} {r1 r2 r3 r4 : List (Str × Bool)} (N : News h₀ L s.heap ((lr, listOf #[.ref e1, .ref e2, .ref e3, .ref e4] nn) :: news))
  (Y1 : EntryIn w news e1 r1) (Y2 : EntryIn w news e2 r2) (Y3 : EntryIn w news e3 r3) (Y4 : EntryIn w news e4 r4)
  (hdp : dp + 5 < recursionLimit) (hu : un + 16 < cLine) (hrl : r1.length + r2.length + r3.length + r4.length ≤ 1000)
  (hret : ∀ x ex h' tk, Fr h₀ L h' m → News h₀ L h' (ex ++ (lr, listOf #[.ref e1, .ref e2, .ref e3, .ref e4] nn) :: news) → (∀ q ∈ ex, ∀ q' ∈ (lr, listOf #[.ref e1, .ref e2, .ref e3, .ref e4] nn) :: news, q'.1 < q.1) → EntryIn w (ex ++ (lr, listOf #[.ref e1, .ref e2, .ref e3, .ref e4] nn) :: news) x (mergedRules r1 r2 r3 r4 way) → Q (.ref x) { s with heap := h', toks := tk }) :
    wpAny (model PySem.Challenge.rw_ny0467_01.row.prog w) (ktrTop dp un gd cn cs L a ccd cl outer) (call (.ref 98) [.ref lr, .int way t]) Q E s := by
  k_with_none
  w_top off
  revert X; k_fill; intro X
  refine wpAny_call ?_
  k_dflt (refine' code_def ?k1 ?k2 ?k3 ?k4 ?k5 ?kA ?kF ?kK ?k6 ?k7 ?k8 ?k9 ?kB ?_ ?c2 ?c3 ?c4 ?c5; (case kA => exact rfl); (case kF => exact rfl); (case kK => assumption); (case k1 => k_asm); (case k2 => k_asm); (case k3 => k_asm); (case k4 => k_asm); (case k5 => k_asm); (case k6 => k_is); (case k7 => k_is); (case k8 => ktr_room); (case k9 => exact BindsTo.of_eq rfl); (case c5 => decide); (case kB => exact locs rfl); (case c2 => exact rfl); (case c3 => exact rfl); (case c4 => exact rfl); k_whole; intro g L' hE FG FE NE BE XE TE; (try dsimp only); (try k_lift BE); (try k_fold))
  repeat' ((fail_if_success (with_reducible show wpAny _ _ (PySem.call (Value.ref 63) _) _ _ _)); first | (k_unfold; (try dsimp only)) | (k_end; wrow_close) | walk1 | (dsimp only; walk1) | (leave1; walk_say "STEP leave1"; try dsimp only) | fail "no step")
  have W1 : EntryIn w ((lr, listOf #[.ref e1, .ref e2, .ref e3, .ref e4] nn) :: news) e1 r1 := Y1.mono fun q hq => .tail _ hq
  have W2 : EntryIn w ((lr, listOf #[.ref e1, .ref e2, .ref e3, .ref e4] nn) :: news) e2 r2 := Y2.mono fun q hq => .tail _ hq
  have W3 : EntryIn w ((lr, listOf #[.ref e1, .ref e2, .ref e3, .ref e4] nn) :: news) e3 r3 := Y3.mono fun q hq => .tail _ hq
  have W4 : EntryIn w ((lr, listOf #[.ref e1, .ref e2, .ref e3, .ref e4] nn) :: news) e4 r4 := Y4.mono fun q hq => .tail _ hq
  clear Y1 Y2 Y3 Y4
  k_dflt (refine' merge_spec ?k1 ?k2 ?k3 ?k4 ?k5 ?k6 W1 W2 ?k7 ?k8 ?k9 ?_; (case k1 => k_asm); (case k2 => k_asm); (case k3 => k_asm); (case k4 => k_asm); (case k5 => exact rfl); (case k6 => k_asm); (case k7 => ktr_room); (case k8 => ktr_units); (case k9 => ((try simp only [List.length_append]); omega)))
  intro xa exa ha tka Fa Na oa Ea
  replace W3 := W3.mono (b := exa ++ ((lr, listOf #[.ref e1, .ref e2, .ref e3, .ref e4] nn) :: news)) (fun q hq => List.mem_append_right _ hq)
  replace W4 := W4.mono (b := exa ++ ((lr, listOf #[.ref e1, .ref e2, .ref e3, .ref e4] nn) :: news)) (fun q hq => List.mem_append_right _ hq)
  repeat' ((fail_if_success (with_reducible show wpAny _ _ (PySem.call (Value.ref 63) _) _ _ _)); first | (k_unfold; (try dsimp only)) | (k_end; wrow_close) | walk1 | (dsimp only; walk1) | (leave1; walk_say "STEP leave1"; try dsimp only) | fail "no step")
  · k_dflt (refine' merge_spec ?k1 ?k2 ?k3 ?k4 ?k5 ?k6 W4 W3 ?k7 ?k8 ?k9 ?_; (case k1 => k_asm); (case k2 => k_asm); (case k3 => k_asm); (case k4 => k_asm); (case k5 => exact rfl); (case k6 => k_asm); (case k7 => ktr_room); (case k8 => ktr_units); (case k9 => ((try simp only [List.length_append]); omega)))
    intro xb exb hb tkb Fb Nb ob Eb
    replace Ea := Ea.mono (b := exb ++ (exa ++ ((lr, listOf #[.ref e1, .ref e2, .ref e3, .ref e4] nn) :: news))) (fun q hq => List.mem_append_right _ hq)
    repeat' ((fail_if_success (with_reducible show wpAny _ _ (PySem.call (Value.ref 63) _) _ _ _)); first | (k_unfold; (try dsimp only)) | (k_end; wrow_close) | walk1 | (dsimp only; walk1) | (leave1; walk_say "STEP leave1"; try dsimp only) | fail "no step")
    k_dflt (refine' merge_spec ?k1 ?k2 ?k3 ?k4 ?k5 ?k6 Ea Eb ?k7 ?k8 ?k9 ?_; (case k1 => k_asm); (case k2 => k_asm); (case k3 => k_asm); (case k4 => k_asm); (case k5 => exact rfl); (case k6 => k_asm); (case k7 => ktr_room); (case k8 => ktr_units); (case k9 => ((try simp only [List.length_append]); omega)))
    intro xc exc hc tkc Fc Nc oc Ec
    k_steps
    rename_i kF kN kT kX
    have hw : way = 0 := by assumption
    refine hret xc (exc ++ (exb ++ exa)) _ _ kF (by simpa only [List.append_assoc] using kN) (fun q hq q' hq' => ?_) (by rw [mergedRules, if_pos hw]; simpa only [List.append_assoc] using Ec)
    rcases List.mem_append.mp hq with hq | hq
    · exact oc q hq q' (List.mem_append_right _ (List.mem_append_right _ hq'))
    rcases List.mem_append.mp hq with hq | hq
    · exact ob q hq q' (List.mem_append_right _ hq')
    · exact oa q hq q' hq'
  · k_dflt (refine' merge_spec ?k1 ?k2 ?k3 ?k4 ?k5 ?k6 W3 Ea ?k7 ?k8 ?k9 ?_; (case k1 => k_asm); (case k2 => k_asm); (case k3 => k_asm); (case k4 => k_asm); (case k5 => exact rfl); (case k6 => k_asm); (case k7 => ktr_room); (case k8 => ktr_units); (case k9 => ((try simp only [List.length_append]); omega)))
    intro xb exb hb tkb Fb Nb ob Eb
    replace W4 := W4.mono (b := exb ++ (exa ++ ((lr, listOf #[.ref e1, .ref e2, .ref e3, .ref e4] nn) :: news))) (fun q hq => List.mem_append_right _ hq)
    repeat' ((fail_if_success (with_reducible show wpAny _ _ (PySem.call (Value.ref 63) _) _ _ _)); first | (k_unfold; (try dsimp only)) | (k_end; wrow_close) | walk1 | (dsimp only; walk1) | (leave1; walk_say "STEP leave1"; try dsimp only) | fail "no step")
    k_dflt (refine' merge_spec ?k1 ?k2 ?k3 ?k4 ?k5 ?k6 Eb W4 ?k7 ?k8 ?k9 ?_; (case k1 => k_asm); (case k2 => k_asm); (case k3 => k_asm); (case k4 => k_asm); (case k5 => exact rfl); (case k6 => k_asm); (case k7 => ktr_room); (case k8 => ktr_units); (case k9 => ((try simp only [List.length_append]); omega)))
    intro xc exc hc tkc Fc Nc oc Ec
    k_steps
    rename_i kF kN kT kX
    have hw : ¬ way = 0 := by assumption
    refine hret xc (exc ++ (exb ++ exa)) _ _ kF (by simpa only [List.append_assoc] using kN) (fun q hq q' hq' => ?_) (by rw [mergedRules, if_neg hw]; simpa only [List.append_assoc] using Ec)
    rcases List.mem_append.mp hq with hq | hq
    · exact oc q hq q' (List.mem_append_right _ (List.mem_append_right _ hq'))
    rcases List.mem_append.mp hq with hq | hq
    · exact ob q hq q' (List.mem_append_right _ hq')
    · exact oa q hq q' hq'
end Mine
end
section
open PySem PySem.W PyProof.Rows PySem.Calls
set_option maxRecDepth 100000
set_option maxHeartbeats 4000000
namespace Mine

local macro_rules | `(tactic| k_room) => `(tactic| ktr_room)
local macro_rules | `(tactic| k_mem) => `(tactic| assumption)
def reach (path name : Str) : Int := if Txt.startswith name path = true then (path.length : Int) + 1 else 0
theorem applies_spec {w : World} {p : Program} {loose : List Str} {mean : ExcName → Option Value} {mg mb : Str → Option Value} {news : Led}
  {dp un : Nat} {gd : Option (List Code)} {cn : Str} {cs : Scope} {a : Addr} {ccd : Value} {cl : List (Str × Addr)} {outer : List Env} {A₀ : Around} {base h₀ : Heap} {L : Addr} {m : Str → Option Value} {s : Shared} {Q E : Value → Shared → Prop}
  (B : Below A₀ base outer h₀) (F : Fr h₀ L s.heap m) (X : (hd.heap_39 w.params).In h₀) (T : Top p loose mean mg mb h₀) (hk : cs.kind = .function) {f cell c : Addr} {ctv pm : Value} {oce : Obj} {path name : Str} {tp t : Tok} (N : News h₀ L s.heap news)
  (hf : (f, kla_obj (Str.ofString "<lambda>") lamQ lamP lamB lamS [(Str.ofString "path", cell)] pm c ctv) ∈ news) (hc : (cell, oce) ∈ news) (hcd : oce.data = .cell (some (.str path tp))) (hC : CodeIn news c)
  (hdp : dp + 1 < recursionLimit) (hu : un + 8 < cLine) (hl1 : path.length ≤ 100) (hl2 : name.length ≤ 100)
  (hret : ∀ t h' tk, Fr h₀ L h' m → News h₀ L h' news → Q (.int (reach path name) t) { s with heap := h', toks := tk }) :
    wpAny (model PySem.Challenge.rw_ny0467_01.row.prog w) (ktrTop dp un gd cn cs L a ccd cl outer) (call (.ref f) [.str name t]) Q E s := by
  k_with_none
  w_top off
  revert X; k_fill; intro X
  obtain ⟨oc, vs, tq, hoc, hd1, hd2⟩ := hC
  refine wpAny_call ?_
  k_dflt (refine' kla_code (env := envX cn cs L a ccd cl) ?k1 ?k2 ?k3 ?k4 ?k5 ?kA ?kF ?kK hf ?k7 ?k8 ?k9 ?kB ?_ ?c2 ?c3 ?c4 ?c5; (case kA => exact rfl); (case kF => exact rfl); (case kK => assumption); (case k1 => k_asm); (case k2 => k_asm); (case k3 => k_asm); (case k4 => k_asm); (case k5 => k_asm); (case k7 => exact codeRec_news N hoc hd1 hd2); (case k8 => ktr_room); (case k9 => exact rfl); (case c5 => decide +kernel); (case kB => exact locs rfl); (case c2 => exact rfl); (case c3 => exact rfl); (case c4 => exact rfl); k_whole; intro g L' hE FG FE NE BE XE TE; (try dsimp only); (try k_lift BE))
  (conv in (lamB) => whnf)
  have eS : lamS = lamS := rfl
  conv at eS => rhs; whnf
  rw [eS]
  have FE' : Fr g L' hE (fun y => List.lookup y [(Str.ofString "name", .str name t)]) := FE
  clear FE
  generalize s.toks + _ = tk0
  generalize lamQ = qn
  clear eS
  repeat' ((fail_if_success (with_reducible show wpAny _ _ (eval (Expr.Name (Str.ofString "path") _) _) _ _ _)); first | (k_unfold; (try dsimp only)) | (k_end; wrow_close) | walk1 | (dsimp only; walk1) | (leave1; walk_say "STEP leave1"; try dsimp only) | fail "no step")
  k_dflt (refine' nameX_F NE rfl hc hcd ?_ rfl rfl)
  repeat' ((fail_if_success (with_reducible show wpAny _ _ (eval (Expr.Name (Str.ofString "path") _) _) _ _ _)); first | (k_unfold; (try dsimp only)) | (k_end; wrow_close) | walk1 | (dsimp only; walk1) | (leave1; walk_say "STEP leave1"; try dsimp only) | fail "no step")
  · k_dflt (refine' nameX_F NE rfl hc hcd ?_ rfl rfl)
    k_steps
    rename_i kF kN kT kX
    have e : reach path name = (path.length : Int) + 1 := if_pos ‹Txt.startswith name path = true›
    rw [← e]
    exact hret _ _ _ kF kN
  · rename_i kF kN kT kX
    have e : reach path name = 0 := if_neg (by simpa using ‹Txt.startswith name path = false›)
    rw [← e]
    exact hret _ _ _ kF kN
end Mine
end
section
open PySem PySem.W PyProof.Rows PySem.Calls
set_option maxRecDepth 100000
set_option maxHeartbeats 4000000
namespace Mine

local macro_rules | `(tactic| k_room) => `(tactic| ktr_room)
local macro_rules | `(tactic| k_mem) => `(tactic| assumption)
def askStep (name : Str) (st : Int × Bool) (q : Str × Bool) : Int × Bool :=
  if reach q.1 name = 0 then st else if st.1 < reach q.1 name then (reach q.1 name, q.2) else if reach q.1 name = st.1 ∧ st.2 = false then (st.1, q.2) else st
def askRules (name : Str) (rules : List (Str × Bool)) : Bool := (rules.foldl (askStep name) (-1, true)).2
def am (u v : Option Value) (al : Bool) (b : Int) (tb : Tok) (x : Addr) (name : Str) (t : Tok) : Str → Option Value := fun y => if y = Str.ofString "line" then u else if y = Str.ofString "m" then v else
  if y = Str.ofString "allowance" then some (.bool al) else if y = Str.ofString "best_match" then some (.int b tb) else List.lookup y [(Str.ofString "filename", .str name t), (Str.ofString "self", .ref x)]
theorem am_norm {M : Str → Option Value} {al : Bool} {b : Int} {tb : Tok} {x : Addr} {name : Str} {t : Tok} (h1 : M (Str.ofString "allowance") = some (.bool al)) (h2 : M (Str.ofString "best_match") = some (.int b tb))
    (h3 : ∀ y, y ≠ Str.ofString "line" → y ≠ Str.ofString "m" → y ≠ Str.ofString "allowance" → y ≠ Str.ofString "best_match" → M y = List.lookup y [(Str.ofString "filename", .str name t), (Str.ofString "self", .ref x)]) :
    M = am (M (Str.ofString "line")) (M (Str.ofString "m")) al b tb x name t := by
  funext y
  unfold am
  by_cases e1 : y = Str.ofString "line"
  · rw [if_pos e1, e1]
  by_cases e2 : y = Str.ofString "m"
  · rw [if_neg e1, if_pos e2, e2]
  by_cases e3 : y = Str.ofString "allowance"
  · rw [if_neg e1, if_neg e2, if_pos e3, e3, h1]
  by_cases e4 : y = Str.ofString "best_match"
  · rw [if_neg e1, if_neg e2, if_neg e3, if_pos e4, e4, h2]
  · rw [if_neg e1, if_neg e2, if_neg e3, if_neg e4, h3 y e1 e2 e3 e4]
theorem RulesIn.cons_inv {led : Led} {v : Value} {r : List Value} {qs : List (Str × Bool)} (h : RulesIn led (v :: r) qs) : ∃ a q qs', v = .ref a ∧ qs = q :: qs' ∧ RuleIn led a q.1 q.2 ∧ RulesIn led r qs' := by
  cases qs with
  | nil => cases v <;> exact h.elim
  | cons q qs' =>
    cases v with
    | ref a => exact ⟨a, q, qs', rfl, rfl, h.1, h.2⟩
    | _ => exact h.elim
theorem allowance_spec {w : World} {p : Program} {loose : List Str} {mean : ExcName → Option Value} {mg mb : Str → Option Value} {news : Led}
  {dp un : Nat} {gd : Option (List Code)} {cn : Str} {cs : Scope} {a : Addr} {ccd : Value} {cl : List (Str × Addr)} {outer : List Env} {A₀ : Around} {base h₀ : Heap} {L : Addr} {m : Str → Option Value} {s : Shared} {Q E : Value → Shared → Prop}
  (B : Below A₀ base outer h₀) (F : Fr h₀ L s.heap m) (X : (hd.heap_39 w.params).In h₀) (T : Top p loose mean mg mb h₀) (hk : cs.kind = .function) {x : Addr} {rules : List (Str × Bool)} {name : Str} {t : Tok} (N : News h₀ L s.heap news) (Y : EntryIn w news x rules)
  (hdp : dp + 3 < recursionLimit) (hu : un + 12 < cLine) (hl1 : ∀ q ∈ rules, q.1.length ≤ 100) (hl2 : name.length ≤ 100)
  (hret : ∀ h' tk, Fr h₀ L h' m → News h₀ L h' news → Q (.bool (askRules name rules)) { s with heap := h', toks := tk }) :
    wpAny (model PySem.Challenge.rw_ny0467_01.row.prog w) (ktrTop dp un gd cn cs L a ccd cl outer) (call (.ref 49) [.ref x, .str name t]) Q E s := by
  k_with_none
  w_top off
  revert X; k_fill; intro X
  obtain ⟨d1, u1, l1, v1, n1, m1, a1, a2, a3, a4, y1, y2, y3, y4, y5⟩ := Y
  refine wpAny_call ?_
  k_dflt (refine' code_def ?k1 ?k2 ?k3 ?k4 ?k5 ?kA ?kF ?kK ?k6 ?k7 ?k8 ?k9 ?kB ?_ ?c2 ?c3 ?c4 ?c5; (case kA => exact rfl); (case kF => exact rfl); (case kK => assumption); (case k1 => k_asm); (case k2 => k_asm); (case k3 => k_asm); (case k4 => k_asm); (case k5 => k_asm); (case k6 => k_is); (case k7 => k_is); (case k8 => ktr_room); (case k9 => exact BindsTo.of_eq rfl); (case c5 => decide); (case kB => exact locs rfl); (case c2 => exact rfl); (case c3 => exact rfl); (case c4 => exact rfl); k_whole; intro g L' hE FG FE NE BE XE TE; (try dsimp only); (try k_lift BE); (try k_fold))
  repeat' ((fail_if_success (with_reducible show wpAny _ _ (pyIter _) _ _ _)); first | (k_unfold; (try dsimp only)) | (k_end; wrow_close) | walk1 | (dsimp only; walk1) | (leave1; walk_say "STEP leave1"; try dsimp only) | fail "no step")
  rename_i Fq Nq
  refine iter_listUnr (lo := listOf (List.toArray v1) n1) (vs := v1) (n := n1) rfl Fq Nq y4 rfl rfl ?_
  intro Ia lIa
  refine list_ind (fun vs m led => ∃ qs u v al b tb, news = led ∧ m = am u v al b tb x name t ∧ RulesIn news vs qs ∧ (∀ q ∈ qs, q.1.length ≤ 100) ∧ -1 ≤ b ∧ qs.foldl (askStep name) (b, al) = rules.foldl (askStep name) (-1, true)) ?_ ?_ v1 _ _ ?_
  · rintro vv rr m led it ⟨qs, u, v, al, b, tb, rfl, rfl, hR, hlq, hb, hfold⟩ hic h9 tk9 F2 N2
    obtain ⟨ra, q, qs', rfl, rfl, ⟨dd, fd, sl, es, nd, f, c, ctv, pm, cell, oce, tp, g1, g2, g3, g4, g5, g6, g7, g8⟩, hR'⟩ := hR.cons_inv
    repeat' ((fail_if_success (with_reducible show wpAny _ _ (PySem.getMethod (Value.ref _) (Str.ofString "applies_to") _) _ _ _)); first | (k_unfold; (try dsimp only)) | (k_end; wrow_close) | walk1 | (dsimp only; walk1) | (leave1; walk_say "STEP leave1"; try dsimp only) | fail "no step")
    rename_i Fm Nm
    k_dflt (refine' method_fn' (N2 _ (.tail _ g1)).1 (N2 _ (.tail _ g2)).1 noApplies g3 rfl ?_)
    repeat' ((fail_if_success (with_reducible show wpAny _ _ (callWith _ (Value.ref _) _ _ _) _ _ _)); first | (k_unfold; (try dsimp only)) | (k_end; wrow_close) | walk1 | (dsimp only; walk1) | (leave1; walk_say "STEP leave1"; try dsimp only) | fail "no step")
    k_dflt (refine' callWith_F ⟨_, _, _, _, (N2 _ (.tail _ g5)).1⟩ ?_ rfl rfl)
    repeat' ((fail_if_success (with_reducible show wpAny _ _ (PySem.call (Value.ref _) _) _ _ _)); first | (k_unfold; (try dsimp only)) | (k_end; wrow_close) | walk1 | (dsimp only; walk1) | (leave1; walk_say "STEP leave1"; try dsimp only) | fail "no step")
    have hN3 : ∀ p ∈ news, p ∈ (Ia, it) :: news := fun p hp => .tail _ hp
    have hq1 := hlq q (.head _)
    k_dflt (refine' applies_spec ?k1 ?k2 ?k3 ?k5 ?k6 ?k4 (hN3 _ g5) (hN3 _ g6) g7 (g8.mono hN3) ?k7 ?k8 hq1 hl2 ?_; (case k1 => k_asm); (case k2 => k_asm); (case k3 => k_asm); (case k4 => k_asm); (case k5 => k_asm); (case k6 => exact rfl); (case k7 => ktr_room); (case k8 => ktr_units))
    intro ta ha tka Fa Na
    repeat' ((fail_if_success (with_reducible show wpAny _ _ (PySem.getAttr (Value.ref _) (Str.ofString "allowance") _) _ _ _)); first | (k_unfold; (try dsimp only)) | (k_end; wrow_close) | walk1 | (dsimp only; walk1) | (leave1; walk_say "STEP leave1"; try dsimp only) | fail "no step")
    · have NU0 := ‹News g L' _ ((Ia, it) :: news)›
      k_dflt (refine' get_fn (NU0 _ (.tail _ g1)).1 (NU0 _ (.tail _ g2)).1 noAllowance g4 rfl ?_)
      k_steps
      have FU := ‹Fr g L' _ _›
      have NU := ‹News g L' _ ((Ia, it) :: news)›
      refine UnrEnd.intro FU NU news (fun p hp => hp) (unr_off lIa) ⟨y4, qs', _, _, q.2, reach q.1 name, _, rfl, am_norm rfl rfl (fun y e1 e2 e3 e4 => by simp only [if_neg e1, if_neg e2, am, if_neg e3, if_neg e4]), hR', (fun q hq => hlq q (.tail _ hq)), ?_, ?_⟩
      · omega
      · rw [← hfold, List.foldl_cons]; congr 1; unfold askStep; rw [if_neg ‹reach q.fst name ≠ 0›, if_pos ‹b < reach q.fst name›]
    · have FU := ‹Fr g L' _ _›
      have NU := ‹News g L' _ ((Ia, it) :: news)›
      refine UnrEnd.intro FU NU news (fun p hp => hp) (unr_off lIa) ⟨y4, qs', _, _, al, b, _, rfl, am_norm rfl rfl (fun y e1 e2 e3 e4 => by simp only [if_neg e1, if_neg e2, am, if_neg e3, if_neg e4]), hR', (fun q hq => hlq q (.tail _ hq)), ?_, ?_⟩
      · omega
      · rw [← hfold, List.foldl_cons]; congr 1; unfold askStep; rw [if_neg ‹reach q.fst name ≠ 0›, if_neg ‹¬b < reach q.fst name›, if_neg (by rintro ⟨_, h⟩; rw [‹al = true›] at h; cases h)]
    · have NU0 := ‹News g L' _ ((Ia, it) :: news)›
      k_dflt (refine' get_fn (NU0 _ (.tail _ g1)).1 (NU0 _ (.tail _ g2)).1 noAllowance g4 rfl ?_)
      k_steps
      have FU := ‹Fr g L' _ _›
      have NU := ‹News g L' _ ((Ia, it) :: news)›
      refine UnrEnd.intro FU NU news (fun p hp => hp) (unr_off lIa) ⟨y4, qs', _, _, q.2, b, _, rfl, am_norm rfl rfl (fun y e1 e2 e3 e4 => by simp only [if_neg e1, if_neg e2, am, if_neg e3, if_neg e4]), hR', (fun q hq => hlq q (.tail _ hq)), ?_, ?_⟩
      · omega
      · rw [← hfold, List.foldl_cons]; congr 1; unfold askStep; rw [if_neg ‹reach q.fst name ≠ 0›, if_neg ‹¬b < reach q.fst name›, if_pos ⟨‹reach q.fst name = b›, ‹al = false›⟩]
    · have FU := ‹Fr g L' _ _›
      have NU := ‹News g L' _ ((Ia, it) :: news)›
      refine UnrEnd.intro FU NU news (fun p hp => hp) (unr_off lIa) ⟨y4, qs', _, _, al, b, _, rfl, am_norm rfl rfl (fun y e1 e2 e3 e4 => by simp only [if_neg e1, if_neg e2, am, if_neg e3, if_neg e4]), hR', (fun q hq => hlq q (.tail _ hq)), ?_, ?_⟩
      · omega
      · rw [← hfold, List.foldl_cons]; congr 1; unfold askStep; rw [if_neg ‹reach q.fst name ≠ 0›, if_neg ‹¬b < reach q.fst name›, if_neg (fun h => ‹reach q.fst name ≠ b› h.1)]
    · have FU := ‹Fr g L' _ _›
      have NU := ‹News g L' _ ((Ia, it) :: news)›
      refine UnrEnd.intro FU NU news (fun p hp => hp) (unr_off lIa) ⟨y4, qs', _, _, al, b, _, rfl, am_norm rfl rfl (fun y e1 e2 e3 e4 => by simp only [if_neg e1, if_neg e2, am, if_neg e3, if_neg e4]), hR', (fun q hq => hlq q (.tail _ hq)), ?_, ?_⟩
      · omega
      · rw [← hfold, List.foldl_cons]; congr 1; unfold askStep; rw [if_pos ‹reach q.fst name = 0›]
  · rintro m led ⟨qs, u, v, al, b, tb, rfl, rfl, hR, hlq, hb, hfold⟩ h9 tk9 F2 N2
    k_steps
    rename_i kF kN kT kX
    have e : al = askRules name rules := by
      cases qs with
      | nil => unfold askRules; rw [← hfold]; rfl
      | cons q qs' => exact hR.elim
    rw [e]
    exact hret _ _ kF kN
  · exact ⟨rules, _, _, true, -1, _, rfl, am_norm rfl rfl (fun y e1 e2 e3 e4 => (if_neg e3).trans (if_neg e4)), y5, hl1, Int.le_refl _, rfl⟩
end Mine
end
section
open PySem PySem.W PyProof.Rows PySem.Calls
set_option maxRecDepth 100000
set_option maxHeartbeats 6000000
namespace Mine

local macro_rules | `(tactic| k_room) => `(tactic| ktr_room)
local macro_rules | `(tactic| k_mem) => `(tactic| assumption)
section
open LCg LCt
variable {prog : Program} {w : World} {A : Around} {s : Shared} {h₀ : Heap} {L : Addr} {m : Str → Option Value} {env : Env}
theorem compT_ind {ct elt : PySem.Expr} {x : Str} {scope : Scope} {cl : List (Str × Addr)} {S : List (Addr × Obj) → Prop} {P : Nat → Value → Prop} {Fin : List Value → List (Addr × Obj) → Prop} {n : Nat} (J : Nat → List Value → Led → Prop)
    (turn : ∀ i ys news, i < n → J i ys news → ∀ v I oI C oC D m₂ h tk (E' : Value → Shared → Prop), P i v → NsObj oC m₂ → m₂ x = some v → Fr h₀ L h m → News h₀ L h ((I, oI) :: (C, oC) :: (D, lst ys) :: news) → Off3 I C D news → ((@Ne Nat I C) ∧ (@Ne Nat I D) ∧ (@Ne Nat C D)) →
      wpAny (model prog w) A (isTrue ct (compEnvC scope cl C env) (eval ct (compEnvC scope cl C env))) (fun ok s' => if ok = true then
        wpAny (model prog w) A (eval elt (compEnvC scope cl C env)) (CompEnd h₀ L m { s with heap := h, toks := tk } I oI C oC D (lst ys) S (fun y news' => J (i + 1) (ys ++ [y]) news')) E' s'
        else CompEnd h₀ L m { s with heap := h, toks := tk } I oI C oC D (lst ys) S (fun _ news' => J (i + 1) ys news') Value.none s') E' { s with heap := h, toks := tk })
    (done : ∀ ys news, J n ys news → Fin ys news) :
    ∀ k i ys news, i + k = n → J i ys news → CompRestT prog w A h₀ L m env ct elt x scope cl s S P Fin k i ys news
  | 0, i, ys, news, e, hj => done ys news (by rwa [← e])
  | k + 1, i, ys, news, e, hj => fun v I oI C oC D m₂ h tk E' hv hC hx F N off ne => by
    refine wpAny_mono (turn i ys news (by omega) hj v I oI C oC D m₂ h tk E' hv hC hx F N off ne) (fun ok s' z => ?_) fun _ _ z => z
    cases ok with
    | true =>
      simp only [if_true] at z ⊢
      refine wpAny_mono z (fun y s₂ z => ?_) fun _ _ z => z
      obtain ⟨h', tk', news', e1, F', N', o', S', r⟩ := z
      exact ⟨h', tk', news', e1, F', N', o', S', compT_ind J turn done k (i + 1) _ _ (by omega) r⟩
    | false =>
      simp only [Bool.false_eq_true, if_false] at z ⊢
      obtain ⟨h', tk', news', e1, F', N', o', S', r⟩ := z
      exact ⟨h', tk', news', e1, F', N', o', S', compT_ind J turn done k (i + 1) _ _ (by omega) r⟩
end
structure Box (P : Prop) : Prop where
  out : P
def Blk (n asked : Int) (j : Nat) : Prop := (n.fmod 256).fdiv (2 ^ j) = asked.fdiv (2 ^ j)
def DueIs (ns : List Int) (asked : Int) (r : Bool) : Prop := ∃ j, (∃ n ∈ ns, Blk n asked j) ∧ (∀ i < j, ∀ n ∈ ns, ¬ Blk n asked i) ∧
  (r = true ↔ ∃ n ∈ ns, Blk n asked j ∧ (((n.fdiv 256).fmod 2 = 0 ∧ asked < n.fmod 256) ∨ ((n.fdiv 256).fmod 2 = 1 ∧ asked > n.fmod 256)))
theorem blk8 {x asked : Int} (h0 : 0 ≤ asked) (h1 : asked < 256) : (x.fmod 256).fdiv 256 = asked.fdiv 256 := by
  have a0 : 0 ≤ x.fmod 256 := Int.fmod_nonneg_of_pos _ (by decide)
  have a1 : x.fmod 256 < 256 := Int.fmod_lt_of_pos _ (by decide)
  rw [Int.fdiv_eq_ediv_of_nonneg _ (by decide), Int.fdiv_eq_ediv_of_nonneg _ (by decide), Int.ediv_eq_zero_of_lt a0 a1, Int.ediv_eq_zero_of_lt h0 h1]
def Good (sz asked x : Int) : Prop := (x.fmod 256).fdiv sz = asked.fdiv sz ∧ (((x.fdiv 256).fmod 2 = 0 ∧ asked < x.fmod 256) ∨ ((x.fdiv 256).fmod 2 = 1 ∧ asked > x.fmod 256))
def dm (u v : Option Value) (ln : Addr) : Str → Option Value := fun y => if y = Str.ofString "number" then u else if y = Str.ofString "mark" then v else if y = Str.ofString "numbers" then some (.ref ln) else none
theorem dm_norm {M : Str → Option Value} {ln : Addr} (h : ∀ y, y ≠ Str.ofString "number" → y ≠ Str.ofString "mark" → M y = if y = Str.ofString "numbers" then some (.ref ln) else none) : M = dm (M (Str.ofString "number")) (M (Str.ofString "mark")) ln := by
  funext y
  unfold dm
  by_cases e1 : y = Str.ofString "number"
  · rw [if_pos e1, e1]
  by_cases e2 : y = Str.ofString "mark"
  · rw [if_neg e1, if_pos e2, e2]
  · rw [if_neg e1, if_neg e2, h y e1 e2]
theorem due_spec {w : World} {p : Program} {loose : List Str} {mean : ExcName → Option Value} {mg mb : Str → Option Value} {news : Led}
  {dp un : Nat} {gd : Option (List Code)} {cn : Str} {cs : Scope} {a : Addr} {ccd : Value} {cl : List (Str × Addr)} {outer : List Env} {A₀ : Around} {base h₀ : Heap} {L : Addr} {m : Str → Option Value} {s : Shared} {Q E : Value → Shared → Prop}
  (B : Below A₀ base outer h₀) (F : Fr h₀ L s.heap m) (X : (hd.heap_39 w.params).In h₀) (T : Top p loose mean mg mb h₀) (hk : cs.kind = .function) {ln : Addr} {vs : List Value} {nn : Nat} {n1 n2 n3 n4 asked : Int} {t : Tok} (N : News h₀ L s.heap ((ln, listOf (List.toArray vs) nn) :: news)) (hI : IntsAre vs [n1, n2, n3, n4])
  (hdp : dp + 3 < recursionLimit) (hu : un + 90 < cLine) (ha0 : 0 ≤ asked) (ha1 : asked < 256)
  (hret : ∀ r h' tk, Fr h₀ L h' m → News h₀ L h' ((ln, listOf (List.toArray vs) nn) :: news) → DueIs [n1, n2, n3, n4] asked r → Q (.bool r) { s with heap := h', toks := tk }) :
    wpAny (model PySem.Challenge.rw_ny0467_01.row.prog w) (ktrTop dp un gd cn cs L a ccd cl outer) (call (.ref 103) [.ref ln, .int asked t]) Q E s := by
  k_with_none
  w_top off
  revert X; k_fill; intro X
  refine wpAny_call ?_
  k_dflt (refine' code_defC ?k1 ?k2 ?k3 ?k4 ?k5 ?kA ?kF ?kK ?k6 ?k7 ?k8 ?k9 ?kB ?kD ?_ ?c2 ?c3 ?c4; (case kA => exact rfl); (case kF => exact rfl); (case kK => assumption); (case k1 => k_asm); (case k2 => k_asm); (case k3 => k_asm); (case k4 => k_asm); (case k5 => k_asm); (case k6 => k_is); (case k7 => k_is); (case k8 => ktr_room); (case k9 => exact BindsTo.of_eq rfl); (case kB => exact rfl); (case kD => decide +kernel); (case c2 => exact rfl); (case c3 => exact rfl); (case c4 => exact rfl); k_whole; intro g L' hE tkE cellsE FG FE NE YE BE XE TE lE; k_cells YE; (try simp only [List.cons_append, List.nil_append] at NE); (try dsimp only); (try k_lift BE); (try k_fold))
  rename_i oS oA dS dA
  have dA' : oA.data = .cell (some (.int asked t)) := dA
  have dS' : oS.data = .cell none := dS
  clear dA dS
  have FE' : Fr g L' hE (fun y => if y = Str.ofString "numbers" then some (.ref ln) else none) := FE
  clear FE
  have Zc : ∀ q ∈ ((L' + 1, oA) :: (ln, listOf (List.toArray vs) nn) :: news), q.1 ≠ L' + 1 + 1 := fun q hq => by
    refine neN ?_
    rcases List.mem_cons.mp hq with rfl | hq
    · dsimp only; omega
    · have := ltN (lE q hq); omega
  repeat' ((fail_if_success (with_reducible show wpAny _ _ (PySem.exec (Stmt.While _ _ _ _) _) _ _ _)); (fail_if_success (with_reducible show wpAny _ _ (PySem.storeName _ _ _) _ _ _)); first | (k_unfold; (try dsimp only)) | (k_end; wrow_close) | walk1 | (dsimp only; walk1) | (leave1; walk_say "STEP leave1"; try dsimp only) | fail "no step")
  k_dflt (refine' storeX_C FE' NE (c := L' + 1 + 1) rfl (UpdF.head Zc) dS' ?_ rfl rfl)
  intro h1 o1 F1 N1 d1
  repeat' ((fail_if_success (with_reducible show wpAny _ _ (PySem.exec (Stmt.While _ _ _ _) _) _ _ _)); first | (k_unfold; (try dsimp only)) | (k_end; wrow_close) | walk1 | (dsimp only; walk1) | (leave1; walk_say "STEP leave1"; try dsimp only) | fail "no step")
  k_dflt (refine' While_inv2 (h₀ := g) (L := L') (n₀ := 8) (fun n m led => ∃ (o1 : Obj) (tks : Tok) (j : Nat) (sz : Int), led = (L' + 1 + 1, o1) :: (L' + 1, oA) :: (ln, listOf (List.toArray vs) nn) :: news ∧ o1.data = .cell (some (.int sz tks)) ∧ sz = 2 ^ j ∧ 0 < sz ∧ sz ≤ 256 ∧ m = (fun y => if y = Str.ofString "numbers" then some (.ref ln) else none) ∧ n + j = 8 ∧ (∀ i < j, ∀ x ∈ [n1, n2, n3, n4], ¬ Blk x asked i)) F1 N1 ?_ ?_ ?_)
  · exact ⟨o1, _, 0, 1, rfl, d1, rfl, by decide, by decide, rfl, rfl, fun i hi => absurd hi (Nat.not_lt_zero _)⟩
  · rintro nq mq led hq tkq Fq Nq ⟨o1, tks, j, sz, rfl, d1, hsz, hsz0, hsz1, rfl, hnj, hno⟩
    repeat' ((fail_if_success (with_reducible show wpAny _ _ (PySem.eval (Expr.ListComp _ _ _ _) _) _ _ _)); first | (k_unfold; (try dsimp only)) | (k_end; wrow_close) | walk1 | (dsimp only; walk1) | (leave1; walk_say "STEP leave1"; try dsimp only) | fail "no step")
    k_dflt (refine LCt.ListComp_T (F₀ := Fq) (by with_unfolding_all rfl) (by decide) (by rfl) (by decide) (by rfl) ?_)
    k_steps
    k_dflt (refine LCt.CompSrcT.ledger (its := List.toArray vs) (k := nn) rfl Fq Nq (.tail _ (.tail _ (.head _))) ?hz ?_)
    case hz => (rw [List.size_toArray, hI.length, sizeLine_eq]; show 4 ≤ 16777216; decide)
    intro gC
    have hnum : vs.toArray.size = 4 := by rw [List.size_toArray, hI.length]; rfl
    refine compT_ind (fun i ys led => led = (L' + 1 + 1, o1) :: (L' + 1, oA) :: (ln, listOf (List.toArray vs) nn) :: news ∧ IntsAre ys (([n1, n2, n3, n4].take i).filter (fun x => decide ((x.fmod 256).fdiv sz = asked.fdiv sz)))) ?_ ?_ _ 0 [] _ (Nat.zero_add _) ⟨rfl, .nil⟩
    · rintro i ys led hi ⟨rfl, hys⟩ vv Ic oIc Cc oCc Dc m2 hc tkc E' hv hCc hxc Fc Nc offc nec
      have hi4 : i < 4 := by rw [← hnum]; exact hi
      obtain ⟨xn, hxn⟩ : ∃ xn, [n1, n2, n3, n4][i]? = some xn := ⟨_, List.getElem?_eq_getElem (by simpa using hi4)⟩
      obtain ⟨tn, htn⟩ := hI.get i xn hxn
      have hvv : vv = .int xn tn := by
        have z : vs[i]? = some vv := by simpa using hv
        rw [htn] at z; exact (Option.some.inj z).symm
      subst hvv
      have etk : [n1, n2, n3, n4].take (i + 1) = [n1, n2, n3, n4].take i ++ [xn] := by rw [List.take_add_one, hxn]; rfl
      k_steps
      · have hb := ‹(xn.fmod 256).fdiv sz = asked.fdiv sz›
        refine LCg.CompEnd.intro Fc Nc ((L' + 1 + 1, o1) :: (L' + 1, oA) :: (ln, listOf (List.toArray vs) nn) :: news) (fun p hp => hp) offc (.inr ⟨_, .tail _ (.tail _ (.head _)), rfl, nn, rfl⟩) ⟨rfl, ?_⟩
        rw [etk, List.filter_append, show [xn].filter (fun x => decide ((x.fmod 256).fdiv sz = asked.fdiv sz)) = [xn] from by simp [hb]]
        exact hys.append (.cons _ _ .nil)
      · have hb := ‹¬ (xn.fmod 256).fdiv sz = asked.fdiv sz›
        refine LCg.CompEnd.intro Fc Nc ((L' + 1 + 1, o1) :: (L' + 1, oA) :: (ln, listOf (List.toArray vs) nn) :: news) (fun p hp => hp) offc (.inr ⟨_, .tail _ (.tail _ (.head _)), rfl, nn, rfl⟩) ⟨rfl, ?_⟩
        rw [etk, List.filter_append, show [xn].filter (fun x => decide ((x.fmod 256).fdiv sz = asked.fdiv sz)) = [] from by simp [hb], List.append_nil]
        exact hys
    · rintro ys led ⟨rfl, hys⟩ D hD tkD FD ND offD
      rw [hnum, List.take_of_length_le (Nat.le_refl 4)] at hys
      repeat' ((fail_if_success (with_reducible show wpAny _ _ (PySem.compareOp _ _ _) _ _ _)); first | (k_unfold; (try dsimp only)) | (k_end; wrow_close) | walk1 | (dsimp only; walk1) | (leave1; walk_say "STEP leave1"; try dsimp only) | fail "no step")
      have NN := ‹News g L' _ (_ :: (D, LCg.lst ys) :: (L' + 1 + 1, o1) :: (L' + 1, oA) :: (ln, listOf (List.toArray vs) nn) :: news)›
      k_dflt (refine' eq_intsK (vs := ys) (us := []) (ms := []) ⟨_, (NN _ (.tail _ (.head _))).1, rfl, _, rfl⟩ hys ⟨_, (NN _ (.head _)).1, rfl, _, rfl⟩ .nil ?hun ?_)
      case hun => ((try simp only [units_deeper]); (try dsimp only [ktrTop]); omega)
      have NN2 : News g L' _ ((L' + 1 + 1, o1) :: (L' + 1, oA) :: (ln, listOf (List.toArray vs) nn) :: news) := fun q hq => NN q (.tail _ (.tail _ hq))
      clear NN offD
      repeat' ((fail_if_success (with_reducible show wpAny _ _ (PySem.storeName _ _ _) _ _ _)); (fail_if_success (with_reducible show wpAny _ _ (PySem.exec (Stmt.For _ _ _ _ _) _) _ _ _)); first | (k_unfold; (try dsimp only)) | (k_end; wrow_close) | walk1 | (dsimp only; walk1) | (leave1; walk_say "STEP leave1"; try dsimp only) | fail "no step")
      · have he := of_decide_eq_true ‹decide (List.filter (fun x => decide ((x.fmod 256).fdiv sz = asked.fdiv sz)) [n1, n2, n3, n4] = []) = true›
        have hall : ∀ x ∈ [n1, n2, n3, n4], ¬ (x.fmod 256).fdiv sz = asked.fdiv sz := fun x hx => by simpa using List.filter_eq_nil_iff.mp he x hx
        have hj8 : j < 8 := by
          rcases Nat.lt_or_ge j 8 with h | h
          · exact h
          · exfalso
            have e8 : j = 8 := by omega
            subst e8
            exact hall n1 (.head _) (by rw [hsz]; exact blk8 ha0 ha1)
        have Fx := ‹Fr g L' _ _›
        k_dflt (refine' storeX_C Fx NN2 (c := L' + 1 + 1) rfl (UpdF.head Zc) d1 ?_ rfl rfl)
        intro h2 o2 F2 N2 d2
        k_steps
        refine ⟨h2, _, _, _, nq - 1, rfl, F2, N2, by omega, o2, _, j + 1, 2 * sz, rfl, d2, by rw [hsz, Int.pow_succ, Int.mul_comm], by omega, ?_, rfl, by omega, ?_⟩
        · have : (2 : Int) ^ j ≤ 2 ^ 7 := by
            have h7 : j ≤ 7 := by omega
            exact_mod_cast Nat.pow_le_pow_right (by decide : 0 < 2) h7
          rw [hsz]; omega
        · intro i hi x hx
          rcases Nat.lt_succ_iff_lt_or_eq.mp hi with h | h
          · exact hno i h x hx
          · subst h; unfold Blk; rw [← hsz]; exact hall x hx
      · have he := of_decide_eq_false ‹decide (List.filter (fun x => decide ((x.fmod 256).fdiv sz = asked.fdiv sz)) [n1, n2, n3, n4] = []) = false›
        have hex : ∃ x ∈ [n1, n2, n3, n4], (x.fmod 256).fdiv sz = asked.fdiv sz := by
          obtain ⟨x, hx⟩ := List.exists_mem_of_ne_nil _ he
          rw [List.mem_filter] at hx
          exact ⟨x, hx.1, by simpa using hx.2⟩
        have hbox1 := Box.mk (And.intro hI (And.intro hsz (And.intro hno hex)))
        clear hys hno hex hnj hsz
        have Fx := ‹Fr g L' _ _›
        (with_unfolding_all refine' For_invVF Fx ?k1 ?k2 ?_; (case k1 => exact rfl); (case k2 => exact rfl); k_whole)
        repeat' ((fail_if_success (with_reducible show wpAny _ _ (pyIter _) _ _ _)); first | (k_unfold; (try dsimp only)) | (k_end; wrow_close) | walk1 | (dsimp only; walk1) | (leave1; walk_say "STEP leave1"; try dsimp only) | fail "no step")
        refine iter_listUnr (lo := listOf (List.toArray vs) nn) (vs := vs) (n := nn) rfl Fx NN2 (.tail _ (.tail _ (.head _))) rfl rfl ?_
        intro Ia lIa
        refine list_ind (fun vv m led => ∃ ns' u v, (L' + 1 + 1, o1) :: (L' + 1, oA) :: (ln, listOf (List.toArray vs) nn) :: news = led ∧ m = dm u v ln ∧ IntsAre vv ns' ∧ (∀ x ∈ ns', x ∈ [n1, n2, n3, n4]) ∧ ((∃ x ∈ [n1, n2, n3, n4], Good sz asked x) ↔ ∃ x ∈ ns', Good sz asked x)) ?_ ?_ vs _ _ ?_
        · rintro vv rr m9 led it ⟨ns', u, v, rfl, rfl, hi9, hsub, hgd⟩ hic h9 tk9 F9 N9
          obtain ⟨xn, tn, ns2, rfl, rfl, hi10⟩ : ∃ xn tn ns2, vv = .int xn tn ∧ ns' = xn :: ns2 ∧ IntsAre rr ns2 := by
            cases hi9 with
            | cons n t h => exact ⟨n, t, _, rfl, rfl, h⟩
          have hbox := Box.mk (And.intro hsub (And.intro hgd hi10))
          clear hsub hgd hi10 hi9 he
          (show wpAny _ _ _ _ _ _); k_fold
          repeat' ((fail_if_success (with_reducible show wpAny _ _ (PySem.isTrue (Expr.BoolOp BoolOp.And [] _) _ _) _ _ _)); (fail_if_success (with_reducible show wpAny _ _ (PySem.isTrue (Expr.BoolOp BoolOp.Or [] _) _ _) _ _ _)); (fail_if_success (with_reducible show wpAny _ _ (PySem.execs [] _) _ _ _)); first | (k_unfold; (try dsimp only)) | walk1 | (dsimp only; walk1))
          all_goals first
            | (exfalso; omega)
            | (have hG : Box (Good sz asked xn) := ⟨⟨by assumption, by omega⟩⟩
               clear hsz0 hsz1 ha0 ha1
               (repeat ((rename (_ : Int) = _ => hz); clear hz)); (repeat ((rename (_ : Int) ≠ _ => hz); clear hz)); (repeat ((rename (_ : Int) < _ => hz); clear hz)); (repeat ((rename ¬ (_ : Int) < _ => hz); clear hz)); (repeat ((rename (_ : Int) ≤ _ => hz); clear hz)))
            | (have hG : Box (¬ Good sz asked xn) := ⟨by unfold Good; omega⟩
               clear hsz0 hsz1 ha0 ha1
               (repeat ((rename (_ : Int) = _ => hz); clear hz)); (repeat ((rename (_ : Int) ≠ _ => hz); clear hz)); (repeat ((rename (_ : Int) < _ => hz); clear hz)); (repeat ((rename ¬ (_ : Int) < _ => hz); clear hz)); (repeat ((rename (_ : Int) ≤ _ => hz); clear hz)))
          all_goals (repeat' ((fail_if_success (with_reducible show wpAny _ _ (PySem.execs [] _) _ _ _)); first | (k_unfold; (try dsimp only)) | walk1 | (dsimp only; walk1)); repeat' (first | ((with_reducible refine wpAny_execs_nil ?_); (try dsimp only)) | (k_unfold; (try dsimp only)) | (dsimp only [UnrPost])))
          all_goals (repeat' (first | ((with_reducible refine wpAny_execs_nil ?_); (try dsimp only)) | (k_unfold; (try dsimp only)) | (dsimp only [UnrPost])))
          all_goals first
          | (rename_i kF kN kT kX
             obtain ⟨hsub, hgd, hi10⟩ := hbox.out
             obtain ⟨hI', hsz', hno', hex'⟩ := hbox1.out
             refine hret true _ _ kF (fun q hq => kN q (.tail _ (.tail _ (.tail _ hq)))) ⟨j, ?_, hno', ?_⟩
             · obtain ⟨x, hx, hx2⟩ := hex'; exact ⟨x, hx, by unfold Blk; rw [← hsz']; exact hx2⟩
             · refine ⟨fun _ => ⟨xn, hsub xn (.head _), ?_⟩, fun _ => rfl⟩
               unfold Blk; rw [← hsz']; exact hG.out)
          | (obtain ⟨hsub, hgd, hi10⟩ := hbox.out
             have FU := ‹Fr g L' _ _›
             have NU := ‹News g L' _ ((Ia, it) :: (L' + 1 + 1, o1) :: (L' + 1, oA) :: (ln, listOf (List.toArray vs) nn) :: news)›
             refine UnrEnd.intro FU NU ((L' + 1 + 1, o1) :: (L' + 1, oA) :: (ln, listOf (List.toArray vs) nn) :: news) (fun p hp => hp) (unr_off lIa) ⟨.tail _ (.tail _ (.head _)), ns2, _, _, rfl, dm_norm (fun y e1 e2 => by simp only [if_neg e1, if_neg e2, dm]), hi10, (fun x hx => hsub x (.tail _ hx)), hgd.trans ⟨?_, ?_⟩⟩
             · rintro ⟨x, hx, hx2⟩
               rcases List.mem_cons.mp hx with rfl | hx
               · exact absurd hx2 hG.out
               · exact ⟨x, hx, hx2⟩
             · rintro ⟨x, hx, hx2⟩
               exact ⟨x, .tail _ hx, hx2⟩)
        · rintro m9 led ⟨ns', u, v, rfl, rfl, hi9, hsub, hgd⟩ h9 tk9 F9 N9
          k_steps
          rename_i kF kN kT kX
          obtain ⟨hI', hsz', hno', hex'⟩ := hbox1.out
          cases hi9
          refine hret false _ _ kF (fun q hq => kN q (.tail _ (.tail _ hq))) ⟨j, ?_, hno', ?_⟩
          · obtain ⟨x, hx, hx2⟩ := hex'; exact ⟨x, hx, by unfold Blk; rw [← hsz']; exact hx2⟩
          · refine ⟨fun h => (by cases h), fun ⟨x, hx, hx2⟩ => ?_⟩
            obtain ⟨y, hy, _⟩ := hgd.mp ⟨x, hx, by unfold Blk at hx2; rw [← hsz'] at hx2; exact hx2⟩
            cases hy
        · exact ⟨[n1, n2, n3, n4], _, _, rfl, dm_norm (fun y e1 e2 => rfl), hI, (fun x hx => hx), Iff.rfl⟩
  · passes_own
end Mine
end
section
open PySem PySem.W PyProof.Rows PySem.Calls
set_option maxRecDepth 100000
namespace Mine
theorem reach_nonneg (p n : Str) : 0 ≤ reach p n := by unfold reach; split <;> omega
theorem fold_char (name : Str) : ∀ (rules : List (Str × Bool)) (b : Int) (al : Bool),
    b ≤ (rules.foldl (askStep name) (b, al)).1 ∧ (∀ q ∈ rules, reach q.1 name ≠ 0 → reach q.1 name ≤ (rules.foldl (askStep name) (b, al)).1) ∧
    ((rules.foldl (askStep name) (b, al)).1 = b ∨ ∃ q ∈ rules, reach q.1 name ≠ 0 ∧ reach q.1 name = (rules.foldl (askStep name) (b, al)).1) ∧
    ((rules.foldl (askStep name) (b, al)).2 = true ↔ (al = true ∧ b = (rules.foldl (askStep name) (b, al)).1) ∨ ∃ q ∈ rules, reach q.1 name ≠ 0 ∧ reach q.1 name = (rules.foldl (askStep name) (b, al)).1 ∧ q.2 = true)
  | [], b, al => by simp
  | q :: qs, b, al => by
    rw [List.foldl_cons]
    by_cases h0 : reach q.1 name = 0
    · have e : askStep name (b, al) q = (b, al) := by unfold askStep; rw [if_pos h0]
      rw [e]
      obtain ⟨i1, i2, i3, i4⟩ := fold_char name qs b al
      refine ⟨i1, ?_, ?_, ?_⟩
      · intro p hp hr
        rcases List.mem_cons.mp hp with rfl | hp
        · exact absurd h0 hr
        · exact i2 p hp hr
      · rcases i3 with h | ⟨p, hp, h⟩
        · exact .inl h
        · exact .inr ⟨p, .tail _ hp, h⟩
      · rw [i4]
        refine or_congr Iff.rfl ⟨fun ⟨p, hp, h⟩ => ⟨p, .tail _ hp, h⟩, fun ⟨p, hp, h⟩ => ?_⟩
        rcases List.mem_cons.mp hp with rfl | hp
        · exact absurd h0 h.1
        · exact ⟨p, hp, h⟩
    by_cases h1 : b < reach q.1 name
    · have e : askStep name (b, al) q = (reach q.1 name, q.2) := by unfold askStep; rw [if_neg h0, if_pos h1]
      rw [e]
      obtain ⟨i1, i2, i3, i4⟩ := fold_char name qs (reach q.1 name) q.2
      refine ⟨by omega, ?_, ?_, ?_⟩
      · intro p hp hr
        rcases List.mem_cons.mp hp with rfl | hp
        · exact i1
        · exact i2 p hp hr
      · rcases i3 with h | ⟨p, hp, h⟩
        · exact .inr ⟨q, .head _, h0, h.symm⟩
        · exact .inr ⟨p, .tail _ hp, h⟩
      · rw [i4]
        constructor
        · rintro (⟨h2, h3⟩ | ⟨p, hp, h⟩)
          · exact .inr ⟨q, .head _, h0, h3, h2⟩
          · exact .inr ⟨p, .tail _ hp, h⟩
        · rintro (⟨h2, h3⟩ | ⟨p, hp, h⟩)
          · omega
          · rcases List.mem_cons.mp hp with rfl | hp
            · exact .inl ⟨h.2.2, h.2.1⟩
            · exact .inr ⟨p, hp, h⟩
    by_cases h2 : reach q.1 name = b ∧ al = false
    · have e : askStep name (b, al) q = (b, q.2) := by unfold askStep; rw [if_neg h0, if_neg h1, if_pos h2]
      rw [e]
      obtain ⟨i1, i2, i3, i4⟩ := fold_char name qs b q.2
      refine ⟨i1, ?_, ?_, ?_⟩
      · intro p hp hr
        rcases List.mem_cons.mp hp with rfl | hp
        · rw [h2.1]; exact i1
        · exact i2 p hp hr
      · rcases i3 with h | ⟨p, hp, h⟩
        · exact .inl h
        · exact .inr ⟨p, .tail _ hp, h⟩
      · rw [i4]
        constructor
        · rintro (⟨h3, h4⟩ | ⟨p, hp, h⟩)
          · exact .inr ⟨q, .head _, h0, by rw [h2.1]; exact h4, h3⟩
          · exact .inr ⟨p, .tail _ hp, h⟩
        · rintro (⟨h3, h4⟩ | ⟨p, hp, h⟩)
          · rw [h2.2] at h3; cases h3
          · rcases List.mem_cons.mp hp with rfl | hp
            · exact .inl ⟨h.2.2, h2.1.symm.trans h.2.1⟩
            · exact .inr ⟨p, hp, h⟩
    · have e : askStep name (b, al) q = (b, al) := by unfold askStep; rw [if_neg h0, if_neg h1, if_neg h2]
      rw [e]
      obtain ⟨i1, i2, i3, i4⟩ := fold_char name qs b al
      refine ⟨i1, ?_, ?_, ?_⟩
      · intro p hp hr
        rcases List.mem_cons.mp hp with rfl | hp
        · omega
        · exact i2 p hp hr
      · rcases i3 with h | ⟨p, hp, h⟩
        · exact .inl h
        · exact .inr ⟨p, .tail _ hp, h⟩
      · rw [i4]
        constructor
        · rintro (h3 | ⟨p, hp, h⟩)
          · exact .inl h3
          · exact .inr ⟨p, .tail _ hp, h⟩
        · rintro (h3 | ⟨p, hp, h⟩)
          · exact .inl h3
          · rcases List.mem_cons.mp hp with rfl | hp
            · have hb : reach p.1 name = b := by omega
              have ha : al = true := by
                cases al with
                | true => rfl
                | false => exact absurd ⟨hb, rfl⟩ h2
              exact .inl ⟨ha, hb.symm.trans h.2.1⟩
            · exact .inr ⟨p, hp, h⟩
/-- what one record says of a name: its one reaching rule -/
def Says (rules : List (Str × Bool)) (name : Str) (n a : Int) : Prop := ∃ (d : Nat) (v : Bool), d ≤ 8 ∧ (∃ q ∈ rules, reach q.1 name = d + 3 ∧ q.2 = v) ∧ (∀ q ∈ rules, reach q.1 name ≠ 0 → reach q.1 name = d + 3 ∧ q.2 = v) ∧
  (∀ j ≤ 8, Blk n a j ↔ 8 - j ≤ d) ∧ (v = true ↔ ((n.fdiv 256).fmod 2 = 0 ∧ a < n.fmod 256) ∨ ((n.fdiv 256).fmod 2 = 1 ∧ a > n.fmod 256))
theorem ask_says {ns : List Int} {rs : Int → List (Str × Bool)} {rules : List (Str × Bool)} {name : Str} {a : Int} {r : Bool} (hm : ∀ q, q ∈ rules ↔ ∃ n ∈ ns, q ∈ rs n) (hs : ∀ n ∈ ns, Says (rs n) name n a) (hb : ∀ n ∈ ns, Blk n a 8) (hd : DueIs ns a r) : askRules name rules = r := by
  obtain ⟨j, ⟨n0, hn0, hB0⟩, hno, hr⟩ := hd
  have hj : j ≤ 8 := by
    rcases Nat.lt_or_ge 8 j with h | h
    · exact absurd (hb n0 hn0) (hno 8 h n0 hn0)
    · exact h
  -- every record's depth is at most 8 - j
  have hmax : ∀ n ∈ ns, ∀ q ∈ rs n, reach q.1 name ≠ 0 → reach q.1 name ≤ 11 - (j : Int) := by
    intro n hn q hq hq0
    obtain ⟨d, v, hd8, _, h2, h3, _⟩ := hs n hn
    have e := (h2 q hq hq0).1
    rcases Nat.lt_or_ge (8 - j) d with h | h
    · have : 8 - d < j := by omega
      exact absurd ((h3 (8 - d) (by omega)).mpr (by omega)) (hno _ this n hn)
    · rw [e]; omega
  have hat : ∀ n ∈ ns, Blk n a j → ∃ q ∈ rs n, reach q.1 name = 11 - (j : Int) ∧ (q.2 = true ↔ ((n.fdiv 256).fmod 2 = 0 ∧ a < n.fmod 256) ∨ ((n.fdiv 256).fmod 2 = 1 ∧ a > n.fmod 256)) := by
    intro n hn hB
    obtain ⟨d, v, hd8, ⟨q, hq, h1, h1'⟩, h2, h3, h4⟩ := hs n hn
    have hdj := (h3 j hj).mp hB
    have := hmax n hn q hq (by omega)
    exact ⟨q, hq, by omega, by rw [h1', h4]⟩
  have hof : ∀ n ∈ ns, ∀ q ∈ rs n, reach q.1 name = 11 - (j : Int) → Blk n a j ∧ (q.2 = true ↔ ((n.fdiv 256).fmod 2 = 0 ∧ a < n.fmod 256) ∨ ((n.fdiv 256).fmod 2 = 1 ∧ a > n.fmod 256)) := by
    intro n hn q hq he
    obtain ⟨d, v, hd8, _, h2, h3, h4⟩ := hs n hn
    have := h2 q hq (by omega)
    exact ⟨(h3 j hj).mpr (by omega), by rw [this.2, h4]⟩
  obtain ⟨i1, i2, i3, i4⟩ := fold_char name rules (-1) true
  have htop : (rules.foldl (askStep name) (-1, true)).1 = 11 - (j : Int) := by
    obtain ⟨q, hq, hq1, _⟩ := hat n0 hn0 hB0
    have l1 := i2 q ((hm q).mpr ⟨n0, hn0, hq⟩) (by omega)
    rcases i3 with h | ⟨p, hp, h, h'⟩
    · omega
    · obtain ⟨n, hn, hp'⟩ := (hm p).mp hp
      have := hmax n hn p hp' h
      omega
  have fin : askRules name rules = true ↔ r = true := by
    unfold askRules
    rw [i4, hr, htop]
    constructor
    · rintro (h | ⟨q, hq, h1, h2, h3⟩)
      · omega
      · obtain ⟨n, hn, hq'⟩ := (hm q).mp hq
        obtain ⟨hB, hv⟩ := hof n hn q hq' h2
        exact ⟨n, hn, hB, hv.mp h3⟩
    · rintro ⟨n, hn, hB, hv⟩
      obtain ⟨q, hq, h1, h2⟩ := hat n hn hB
      exact .inr ⟨q, (hm q).mpr ⟨n, hn, hq⟩, by omega, h1, h2.mpr hv⟩
  cases hx : askRules name rules <;> cases r <;> simp_all
end Mine
end
section
open PySem PySem.W PyProof.Rows PySem.Calls
set_option maxRecDepth 100000
set_option maxHeartbeats 1000000
namespace Mine
def cb (b : Bool) : Nat := if b then 49 else 48
def bi (b : Bool) : Int := if b then 1 else 0
theorem bi_cases (b : Bool) : bi b = 0 ∨ bi b = 1 := by cases b <;> decide
theorem cb_inj (a b : Bool) : (cb a = cb b) = (a = b) := by cases a <;> cases b <;> decide
theorem cb_ne (a : Bool) : (cb a = 47) = False := by cases a <;> decide
theorem cb_ne' (a : Bool) : (47 = cb a) = False := by cases a <;> decide
def V (b7 b6 b5 b4 b3 b2 b1 b0 : Bool) : Int := 128 * bi b7 + 64 * bi b6 + 32 * bi b5 + 16 * bi b4 + 8 * bi b3 + 4 * bi b2 + 2 * bi b1 + bi b0
def nm8 (b7 b6 b5 b4 b3 b2 b1 b0 : Bool) : Str := ⟨#[47, cb b7, cb b6, cb b5, cb b4, cb b3, cb b2, cb b1, cb b0, 47]⟩
theorem bit_of {m : Int} {b : Bool} (h : m.fmod 2 = bi b) : bitS m = ⟨#[cb b]⟩ := by unfold bitS; rw [h]; cases b <;> rfl
theorem fd2 (x : Int) : x.fdiv 2 = x / 2 := Int.fdiv_eq_ediv_of_nonneg _ (by decide)
theorem fm2 (x : Int) : x.fmod 2 = x % 2 := Int.fmod_eq_emod_of_nonneg _ (by decide)
theorem of_slash : Str.ofString "/" = ⟨#[47]⟩ := by decide +kernel
theorem of_none : Str.ofString "" = ⟨#[]⟩ := by decide +kernel
theorem app_mk (a b : Array Nat) : (⟨a⟩ : Str) ++ ⟨b⟩ = ⟨a ++ b⟩ := rfl
theorem bit_form (m : Int) : ∃ c, bitS m = ⟨#[c]⟩ := ⟨_, rfl⟩
theorem halfV {x : Int} {b : Bool} : half (2 * x + bi b) = x := by unfold half; rw [fd2]; rcases bi_cases b with h | h <;> rw [h] <;> omega
theorem modV {x : Int} {b : Bool} : (2 * x + bi b).fmod 2 = bi b := by rw [fm2]; rcases bi_cases b with h | h <;> rw [h] <;> omega
theorem V_nest (b7 b6 b5 b4 b3 b2 b1 b0 : Bool) : V b7 b6 b5 b4 b3 b2 b1 b0 = (2 * (2 * (2 * (2 * (2 * (2 * (2 * (2 * 0 + bi b7) + bi b6) + bi b5) + bi b4) + bi b3) + bi b2) + bi b1) + bi b0) := by unfold V; omega
theorem name_of (b7 b6 b5 b4 b3 b2 b1 b0 : Bool) : nameOf (V b7 b6 b5 b4 b3 b2 b1 b0) = nm8 b7 b6 b5 b4 b3 b2 b1 b0 := by
  rw [V_nest]
  unfold nameOf
  simp only [halfV, bit_of modV, of_slash, of_none, app_mk]
  simp [nm8]
theorem bits_of (m : Int) (h0 : 0 ≤ m) (h1 : m < 256) : ∃ b7 b6 b5 b4 b3 b2 b1 b0, m = V b7 b6 b5 b4 b3 b2 b1 b0 := by
  have key : ∀ k : Int, ∃ b, k % 2 = bi b := fun k => by
    rcases (by omega : k % 2 = 0 ∨ k % 2 = 1) with h | h
    · exact ⟨false, h⟩
    · exact ⟨true, h⟩
  obtain ⟨b7, e7⟩ := key (m / 128)
  obtain ⟨b6, e6⟩ := key (m / 64)
  obtain ⟨b5, e5⟩ := key (m / 32)
  obtain ⟨b4, e4⟩ := key (m / 16)
  obtain ⟨b3, e3⟩ := key (m / 8)
  obtain ⟨b2, e2⟩ := key (m / 4)
  obtain ⟨b1, e1⟩ := key (m / 2)
  obtain ⟨b0, e0⟩ := key (m / 1)
  refine ⟨b7, b6, b5, b4, b3, b2, b1, b0, ?_⟩
  unfold V
  rw [← e7, ← e6, ← e5, ← e4, ← e3, ← e2, ← e1, ← e0]
  omega
theorem name_len (m : Int) : (nameOf m).length = 10 := by
  unfold nameOf
  obtain ⟨c7, e7⟩ := bit_form (half (half (half (half (half (half (half m)))))))
  obtain ⟨c6, e6⟩ := bit_form (half (half (half (half (half (half m))))))
  obtain ⟨c5, e5⟩ := bit_form (half (half (half (half (half m)))))
  obtain ⟨c4, e4⟩ := bit_form (half (half (half (half m))))
  obtain ⟨c3, e3⟩ := bit_form (half (half (half m)))
  obtain ⟨c2, e2⟩ := bit_form (half (half m))
  obtain ⟨c1, e1⟩ := bit_form (half m)
  obtain ⟨c0, e0⟩ := bit_form m
  rw [e7, e6, e5, e4, e3, e2, e1, e0]
  simp only [of_slash, of_none, app_mk]
  simp [Str.length]
def wayB (n : Int) (wb : Bool) : Prop := (n.fdiv 256).fmod 2 = bi wb
theorem way_of (n : Int) : ∃ wb, wayB n wb := by
  unfold wayB
  rw [fm2]
  rcases (by omega : (n.fdiv 256) % 2 = 0 ∨ (n.fdiv 256) % 2 = 1) with h | h
  · exact ⟨false, h⟩
  · exact ⟨true, h⟩
theorem rule0 {n : Int} {wb : Bool} (hw : wayB n wb) (b7 b6 b5 b4 b3 b2 b1 b0 : Bool) : ruleK n (nm8 b7 b6 b5 b4 b3 b2 b1 b0) 0 = (⟨#[47, cb (!b7)]⟩, (!b7) == wb) := by
  unfold ruleK
  rw [show (n.fdiv 256).fmod 2 = bi wb from hw]
  cases b7 <;> cases wb <;> rfl
theorem reach0 (b7 b6 b5 b4 b3 b2 b1 b0 a7 a6 a5 a4 a3 a2 a1 a0 : Bool) : reach ⟨#[47, cb (!b7)]⟩ (nm8 a7 a6 a5 a4 a3 a2 a1 a0) = if a7 = !b7 then 3 else 0 := by
  unfold reach Txt.startswith
  rw [StrLaws.subAt_eq]
  simp [nm8, Str.length, cb_inj]
theorem rule1 {n : Int} {wb : Bool} (hw : wayB n wb) (b7 b6 b5 b4 b3 b2 b1 b0 : Bool) : ruleK n (nm8 b7 b6 b5 b4 b3 b2 b1 b0) 1 = (⟨#[47, cb b7, cb (!b6)]⟩, (!b6) == wb) := by
  unfold ruleK
  rw [show (n.fdiv 256).fmod 2 = bi wb from hw]
  cases b6 <;> cases wb <;> rfl
theorem reach1 (b7 b6 b5 b4 b3 b2 b1 b0 a7 a6 a5 a4 a3 a2 a1 a0 : Bool) : reach ⟨#[47, cb b7, cb (!b6)]⟩ (nm8 a7 a6 a5 a4 a3 a2 a1 a0) = if a7 = b7 ∧ a6 = !b6 then 4 else 0 := by
  unfold reach Txt.startswith
  rw [StrLaws.subAt_eq]
  simp [nm8, Str.length, cb_inj]
theorem rule2 {n : Int} {wb : Bool} (hw : wayB n wb) (b7 b6 b5 b4 b3 b2 b1 b0 : Bool) : ruleK n (nm8 b7 b6 b5 b4 b3 b2 b1 b0) 2 = (⟨#[47, cb b7, cb b6, cb (!b5)]⟩, (!b5) == wb) := by
  unfold ruleK
  rw [show (n.fdiv 256).fmod 2 = bi wb from hw]
  cases b5 <;> cases wb <;> rfl
theorem reach2 (b7 b6 b5 b4 b3 b2 b1 b0 a7 a6 a5 a4 a3 a2 a1 a0 : Bool) : reach ⟨#[47, cb b7, cb b6, cb (!b5)]⟩ (nm8 a7 a6 a5 a4 a3 a2 a1 a0) = if a7 = b7 ∧ a6 = b6 ∧ a5 = !b5 then 5 else 0 := by
  unfold reach Txt.startswith
  rw [StrLaws.subAt_eq]
  simp [nm8, Str.length, cb_inj]
theorem rule3 {n : Int} {wb : Bool} (hw : wayB n wb) (b7 b6 b5 b4 b3 b2 b1 b0 : Bool) : ruleK n (nm8 b7 b6 b5 b4 b3 b2 b1 b0) 3 = (⟨#[47, cb b7, cb b6, cb b5, cb (!b4)]⟩, (!b4) == wb) := by
  unfold ruleK
  rw [show (n.fdiv 256).fmod 2 = bi wb from hw]
  cases b4 <;> cases wb <;> rfl
theorem reach3 (b7 b6 b5 b4 b3 b2 b1 b0 a7 a6 a5 a4 a3 a2 a1 a0 : Bool) : reach ⟨#[47, cb b7, cb b6, cb b5, cb (!b4)]⟩ (nm8 a7 a6 a5 a4 a3 a2 a1 a0) = if a7 = b7 ∧ a6 = b6 ∧ a5 = b5 ∧ a4 = !b4 then 6 else 0 := by
  unfold reach Txt.startswith
  rw [StrLaws.subAt_eq]
  simp [nm8, Str.length, cb_inj]
theorem rule4 {n : Int} {wb : Bool} (hw : wayB n wb) (b7 b6 b5 b4 b3 b2 b1 b0 : Bool) : ruleK n (nm8 b7 b6 b5 b4 b3 b2 b1 b0) 4 = (⟨#[47, cb b7, cb b6, cb b5, cb b4, cb (!b3)]⟩, (!b3) == wb) := by
  unfold ruleK
  rw [show (n.fdiv 256).fmod 2 = bi wb from hw]
  cases b3 <;> cases wb <;> rfl
theorem reach4 (b7 b6 b5 b4 b3 b2 b1 b0 a7 a6 a5 a4 a3 a2 a1 a0 : Bool) : reach ⟨#[47, cb b7, cb b6, cb b5, cb b4, cb (!b3)]⟩ (nm8 a7 a6 a5 a4 a3 a2 a1 a0) = if a7 = b7 ∧ a6 = b6 ∧ a5 = b5 ∧ a4 = b4 ∧ a3 = !b3 then 7 else 0 := by
  unfold reach Txt.startswith
  rw [StrLaws.subAt_eq]
  simp [nm8, Str.length, cb_inj]
theorem rule5 {n : Int} {wb : Bool} (hw : wayB n wb) (b7 b6 b5 b4 b3 b2 b1 b0 : Bool) : ruleK n (nm8 b7 b6 b5 b4 b3 b2 b1 b0) 5 = (⟨#[47, cb b7, cb b6, cb b5, cb b4, cb b3, cb (!b2)]⟩, (!b2) == wb) := by
  unfold ruleK
  rw [show (n.fdiv 256).fmod 2 = bi wb from hw]
  cases b2 <;> cases wb <;> rfl
theorem reach5 (b7 b6 b5 b4 b3 b2 b1 b0 a7 a6 a5 a4 a3 a2 a1 a0 : Bool) : reach ⟨#[47, cb b7, cb b6, cb b5, cb b4, cb b3, cb (!b2)]⟩ (nm8 a7 a6 a5 a4 a3 a2 a1 a0) = if a7 = b7 ∧ a6 = b6 ∧ a5 = b5 ∧ a4 = b4 ∧ a3 = b3 ∧ a2 = !b2 then 8 else 0 := by
  unfold reach Txt.startswith
  rw [StrLaws.subAt_eq]
  simp [nm8, Str.length, cb_inj]
theorem rule6 {n : Int} {wb : Bool} (hw : wayB n wb) (b7 b6 b5 b4 b3 b2 b1 b0 : Bool) : ruleK n (nm8 b7 b6 b5 b4 b3 b2 b1 b0) 6 = (⟨#[47, cb b7, cb b6, cb b5, cb b4, cb b3, cb b2, cb (!b1)]⟩, (!b1) == wb) := by
  unfold ruleK
  rw [show (n.fdiv 256).fmod 2 = bi wb from hw]
  cases b1 <;> cases wb <;> rfl
theorem reach6 (b7 b6 b5 b4 b3 b2 b1 b0 a7 a6 a5 a4 a3 a2 a1 a0 : Bool) : reach ⟨#[47, cb b7, cb b6, cb b5, cb b4, cb b3, cb b2, cb (!b1)]⟩ (nm8 a7 a6 a5 a4 a3 a2 a1 a0) = if a7 = b7 ∧ a6 = b6 ∧ a5 = b5 ∧ a4 = b4 ∧ a3 = b3 ∧ a2 = b2 ∧ a1 = !b1 then 9 else 0 := by
  unfold reach Txt.startswith
  rw [StrLaws.subAt_eq]
  simp [nm8, Str.length, cb_inj]
theorem rule7 {n : Int} {wb : Bool} (hw : wayB n wb) (b7 b6 b5 b4 b3 b2 b1 b0 : Bool) : ruleK n (nm8 b7 b6 b5 b4 b3 b2 b1 b0) 7 = (⟨#[47, cb b7, cb b6, cb b5, cb b4, cb b3, cb b2, cb b1, cb (!b0)]⟩, (!b0) == wb) := by
  unfold ruleK
  rw [show (n.fdiv 256).fmod 2 = bi wb from hw]
  cases b0 <;> cases wb <;> rfl
theorem reach7 (b7 b6 b5 b4 b3 b2 b1 b0 a7 a6 a5 a4 a3 a2 a1 a0 : Bool) : reach ⟨#[47, cb b7, cb b6, cb b5, cb b4, cb b3, cb b2, cb b1, cb (!b0)]⟩ (nm8 a7 a6 a5 a4 a3 a2 a1 a0) = if a7 = b7 ∧ a6 = b6 ∧ a5 = b5 ∧ a4 = b4 ∧ a3 = b3 ∧ a2 = b2 ∧ a1 = b1 ∧ a0 = !b0 then 10 else 0 := by
  unfold reach Txt.startswith
  rw [StrLaws.subAt_eq]
  simp [nm8, Str.length, cb_inj]
theorem reach8 (b7 b6 b5 b4 b3 b2 b1 b0 a7 a6 a5 a4 a3 a2 a1 a0 : Bool) : reach (nm8 b7 b6 b5 b4 b3 b2 b1 b0) (nm8 a7 a6 a5 a4 a3 a2 a1 a0) = if a7 = b7 ∧ a6 = b6 ∧ a5 = b5 ∧ a4 = b4 ∧ a3 = b3 ∧ a2 = b2 ∧ a1 = b1 ∧ a0 = b0 then 11 else 0 := by
  unfold reach Txt.startswith
  rw [StrLaws.subAt_eq]
  simp [nm8, Str.length, cb_inj]
end Mine
end
section
open PySem PySem.W PyProof.Rows PySem.Calls
set_option maxRecDepth 100000
set_option maxHeartbeats 1000000
namespace Mine
theorem bi_not (b : Bool) : bi (!b) = 1 - bi b := by cases b <;> decide
theorem bi_rng (b : Bool) : 0 ≤ bi b ∧ bi b ≤ 1 := by cases b <;> decide
theorem fdp (x : Int) (k : Int) (h : 0 ≤ k) : x.fdiv k = x / k := Int.fdiv_eq_ediv_of_nonneg _ h
theorem ar0 {hi x r s m a : Int} (hx : x = 0 ∨ x = 1) (r0 : 0 ≤ r) (r1 : r < 128) (s0 : 0 ≤ s) (s1 : s < 128) (hm : m = hi * 256 + x * 128 + r) (ha : a = hi * 256 + (1 - x) * 128 + s) :
    (∀ j ≤ 8, m.fdiv (2 ^ j) = a.fdiv (2 ^ j) ↔ 8 - j ≤ 0) ∧ (a < m ↔ x = 1) ∧ (a > m ↔ x = 0) := by
  refine ⟨fun j hj => ?_, by omega, by omega⟩
  rcases (by omega : j = 0 ∨ j = 1 ∨ j = 2 ∨ j = 3 ∨ j = 4 ∨ j = 5 ∨ j = 6 ∨ j = 7 ∨ j = 8) with rfl | rfl | rfl | rfl | rfl | rfl | rfl | rfl | rfl
  · rw [fdp _ _ (by decide), fdp _ _ (by decide)]; rw [show ((2 : Int) ^ 0) = 1 from rfl]; omega
  · rw [fdp _ _ (by decide), fdp _ _ (by decide)]; rw [show ((2 : Int) ^ 1) = 2 from rfl]; omega
  · rw [fdp _ _ (by decide), fdp _ _ (by decide)]; rw [show ((2 : Int) ^ 2) = 4 from rfl]; omega
  · rw [fdp _ _ (by decide), fdp _ _ (by decide)]; rw [show ((2 : Int) ^ 3) = 8 from rfl]; omega
  · rw [fdp _ _ (by decide), fdp _ _ (by decide)]; rw [show ((2 : Int) ^ 4) = 16 from rfl]; omega
  · rw [fdp _ _ (by decide), fdp _ _ (by decide)]; rw [show ((2 : Int) ^ 5) = 32 from rfl]; omega
  · rw [fdp _ _ (by decide), fdp _ _ (by decide)]; rw [show ((2 : Int) ^ 6) = 64 from rfl]; omega
  · rw [fdp _ _ (by decide), fdp _ _ (by decide)]; rw [show ((2 : Int) ^ 7) = 128 from rfl]; omega
  · rw [fdp _ _ (by decide), fdp _ _ (by decide)]; rw [show ((2 : Int) ^ 8) = 256 from rfl]; omega
theorem ar1 {hi x r s m a : Int} (hx : x = 0 ∨ x = 1) (r0 : 0 ≤ r) (r1 : r < 64) (s0 : 0 ≤ s) (s1 : s < 64) (hm : m = hi * 128 + x * 64 + r) (ha : a = hi * 128 + (1 - x) * 64 + s) :
    (∀ j ≤ 8, m.fdiv (2 ^ j) = a.fdiv (2 ^ j) ↔ 8 - j ≤ 1) ∧ (a < m ↔ x = 1) ∧ (a > m ↔ x = 0) := by
  refine ⟨fun j hj => ?_, by omega, by omega⟩
  rcases (by omega : j = 0 ∨ j = 1 ∨ j = 2 ∨ j = 3 ∨ j = 4 ∨ j = 5 ∨ j = 6 ∨ j = 7 ∨ j = 8) with rfl | rfl | rfl | rfl | rfl | rfl | rfl | rfl | rfl
  · rw [fdp _ _ (by decide), fdp _ _ (by decide)]; rw [show ((2 : Int) ^ 0) = 1 from rfl]; omega
  · rw [fdp _ _ (by decide), fdp _ _ (by decide)]; rw [show ((2 : Int) ^ 1) = 2 from rfl]; omega
  · rw [fdp _ _ (by decide), fdp _ _ (by decide)]; rw [show ((2 : Int) ^ 2) = 4 from rfl]; omega
  · rw [fdp _ _ (by decide), fdp _ _ (by decide)]; rw [show ((2 : Int) ^ 3) = 8 from rfl]; omega
  · rw [fdp _ _ (by decide), fdp _ _ (by decide)]; rw [show ((2 : Int) ^ 4) = 16 from rfl]; omega
  · rw [fdp _ _ (by decide), fdp _ _ (by decide)]; rw [show ((2 : Int) ^ 5) = 32 from rfl]; omega
  · rw [fdp _ _ (by decide), fdp _ _ (by decide)]; rw [show ((2 : Int) ^ 6) = 64 from rfl]; omega
  · rw [fdp _ _ (by decide), fdp _ _ (by decide)]; rw [show ((2 : Int) ^ 7) = 128 from rfl]; omega
  · rw [fdp _ _ (by decide), fdp _ _ (by decide)]; rw [show ((2 : Int) ^ 8) = 256 from rfl]; omega
theorem ar2 {hi x r s m a : Int} (hx : x = 0 ∨ x = 1) (r0 : 0 ≤ r) (r1 : r < 32) (s0 : 0 ≤ s) (s1 : s < 32) (hm : m = hi * 64 + x * 32 + r) (ha : a = hi * 64 + (1 - x) * 32 + s) :
    (∀ j ≤ 8, m.fdiv (2 ^ j) = a.fdiv (2 ^ j) ↔ 8 - j ≤ 2) ∧ (a < m ↔ x = 1) ∧ (a > m ↔ x = 0) := by
  refine ⟨fun j hj => ?_, by omega, by omega⟩
  rcases (by omega : j = 0 ∨ j = 1 ∨ j = 2 ∨ j = 3 ∨ j = 4 ∨ j = 5 ∨ j = 6 ∨ j = 7 ∨ j = 8) with rfl | rfl | rfl | rfl | rfl | rfl | rfl | rfl | rfl
  · rw [fdp _ _ (by decide), fdp _ _ (by decide)]; rw [show ((2 : Int) ^ 0) = 1 from rfl]; omega
  · rw [fdp _ _ (by decide), fdp _ _ (by decide)]; rw [show ((2 : Int) ^ 1) = 2 from rfl]; omega
  · rw [fdp _ _ (by decide), fdp _ _ (by decide)]; rw [show ((2 : Int) ^ 2) = 4 from rfl]; omega
  · rw [fdp _ _ (by decide), fdp _ _ (by decide)]; rw [show ((2 : Int) ^ 3) = 8 from rfl]; omega
  · rw [fdp _ _ (by decide), fdp _ _ (by decide)]; rw [show ((2 : Int) ^ 4) = 16 from rfl]; omega
  · rw [fdp _ _ (by decide), fdp _ _ (by decide)]; rw [show ((2 : Int) ^ 5) = 32 from rfl]; omega
  · rw [fdp _ _ (by decide), fdp _ _ (by decide)]; rw [show ((2 : Int) ^ 6) = 64 from rfl]; omega
  · rw [fdp _ _ (by decide), fdp _ _ (by decide)]; rw [show ((2 : Int) ^ 7) = 128 from rfl]; omega
  · rw [fdp _ _ (by decide), fdp _ _ (by decide)]; rw [show ((2 : Int) ^ 8) = 256 from rfl]; omega
theorem ar3 {hi x r s m a : Int} (hx : x = 0 ∨ x = 1) (r0 : 0 ≤ r) (r1 : r < 16) (s0 : 0 ≤ s) (s1 : s < 16) (hm : m = hi * 32 + x * 16 + r) (ha : a = hi * 32 + (1 - x) * 16 + s) :
    (∀ j ≤ 8, m.fdiv (2 ^ j) = a.fdiv (2 ^ j) ↔ 8 - j ≤ 3) ∧ (a < m ↔ x = 1) ∧ (a > m ↔ x = 0) := by
  refine ⟨fun j hj => ?_, by omega, by omega⟩
  rcases (by omega : j = 0 ∨ j = 1 ∨ j = 2 ∨ j = 3 ∨ j = 4 ∨ j = 5 ∨ j = 6 ∨ j = 7 ∨ j = 8) with rfl | rfl | rfl | rfl | rfl | rfl | rfl | rfl | rfl
  · rw [fdp _ _ (by decide), fdp _ _ (by decide)]; rw [show ((2 : Int) ^ 0) = 1 from rfl]; omega
  · rw [fdp _ _ (by decide), fdp _ _ (by decide)]; rw [show ((2 : Int) ^ 1) = 2 from rfl]; omega
  · rw [fdp _ _ (by decide), fdp _ _ (by decide)]; rw [show ((2 : Int) ^ 2) = 4 from rfl]; omega
  · rw [fdp _ _ (by decide), fdp _ _ (by decide)]; rw [show ((2 : Int) ^ 3) = 8 from rfl]; omega
  · rw [fdp _ _ (by decide), fdp _ _ (by decide)]; rw [show ((2 : Int) ^ 4) = 16 from rfl]; omega
  · rw [fdp _ _ (by decide), fdp _ _ (by decide)]; rw [show ((2 : Int) ^ 5) = 32 from rfl]; omega
  · rw [fdp _ _ (by decide), fdp _ _ (by decide)]; rw [show ((2 : Int) ^ 6) = 64 from rfl]; omega
  · rw [fdp _ _ (by decide), fdp _ _ (by decide)]; rw [show ((2 : Int) ^ 7) = 128 from rfl]; omega
  · rw [fdp _ _ (by decide), fdp _ _ (by decide)]; rw [show ((2 : Int) ^ 8) = 256 from rfl]; omega
theorem ar4 {hi x r s m a : Int} (hx : x = 0 ∨ x = 1) (r0 : 0 ≤ r) (r1 : r < 8) (s0 : 0 ≤ s) (s1 : s < 8) (hm : m = hi * 16 + x * 8 + r) (ha : a = hi * 16 + (1 - x) * 8 + s) :
    (∀ j ≤ 8, m.fdiv (2 ^ j) = a.fdiv (2 ^ j) ↔ 8 - j ≤ 4) ∧ (a < m ↔ x = 1) ∧ (a > m ↔ x = 0) := by
  refine ⟨fun j hj => ?_, by omega, by omega⟩
  rcases (by omega : j = 0 ∨ j = 1 ∨ j = 2 ∨ j = 3 ∨ j = 4 ∨ j = 5 ∨ j = 6 ∨ j = 7 ∨ j = 8) with rfl | rfl | rfl | rfl | rfl | rfl | rfl | rfl | rfl
  · rw [fdp _ _ (by decide), fdp _ _ (by decide)]; rw [show ((2 : Int) ^ 0) = 1 from rfl]; omega
  · rw [fdp _ _ (by decide), fdp _ _ (by decide)]; rw [show ((2 : Int) ^ 1) = 2 from rfl]; omega
  · rw [fdp _ _ (by decide), fdp _ _ (by decide)]; rw [show ((2 : Int) ^ 2) = 4 from rfl]; omega
  · rw [fdp _ _ (by decide), fdp _ _ (by decide)]; rw [show ((2 : Int) ^ 3) = 8 from rfl]; omega
  · rw [fdp _ _ (by decide), fdp _ _ (by decide)]; rw [show ((2 : Int) ^ 4) = 16 from rfl]; omega
  · rw [fdp _ _ (by decide), fdp _ _ (by decide)]; rw [show ((2 : Int) ^ 5) = 32 from rfl]; omega
  · rw [fdp _ _ (by decide), fdp _ _ (by decide)]; rw [show ((2 : Int) ^ 6) = 64 from rfl]; omega
  · rw [fdp _ _ (by decide), fdp _ _ (by decide)]; rw [show ((2 : Int) ^ 7) = 128 from rfl]; omega
  · rw [fdp _ _ (by decide), fdp _ _ (by decide)]; rw [show ((2 : Int) ^ 8) = 256 from rfl]; omega
theorem ar5 {hi x r s m a : Int} (hx : x = 0 ∨ x = 1) (r0 : 0 ≤ r) (r1 : r < 4) (s0 : 0 ≤ s) (s1 : s < 4) (hm : m = hi * 8 + x * 4 + r) (ha : a = hi * 8 + (1 - x) * 4 + s) :
    (∀ j ≤ 8, m.fdiv (2 ^ j) = a.fdiv (2 ^ j) ↔ 8 - j ≤ 5) ∧ (a < m ↔ x = 1) ∧ (a > m ↔ x = 0) := by
  refine ⟨fun j hj => ?_, by omega, by omega⟩
  rcases (by omega : j = 0 ∨ j = 1 ∨ j = 2 ∨ j = 3 ∨ j = 4 ∨ j = 5 ∨ j = 6 ∨ j = 7 ∨ j = 8) with rfl | rfl | rfl | rfl | rfl | rfl | rfl | rfl | rfl
  · rw [fdp _ _ (by decide), fdp _ _ (by decide)]; rw [show ((2 : Int) ^ 0) = 1 from rfl]; omega
  · rw [fdp _ _ (by decide), fdp _ _ (by decide)]; rw [show ((2 : Int) ^ 1) = 2 from rfl]; omega
  · rw [fdp _ _ (by decide), fdp _ _ (by decide)]; rw [show ((2 : Int) ^ 2) = 4 from rfl]; omega
  · rw [fdp _ _ (by decide), fdp _ _ (by decide)]; rw [show ((2 : Int) ^ 3) = 8 from rfl]; omega
  · rw [fdp _ _ (by decide), fdp _ _ (by decide)]; rw [show ((2 : Int) ^ 4) = 16 from rfl]; omega
  · rw [fdp _ _ (by decide), fdp _ _ (by decide)]; rw [show ((2 : Int) ^ 5) = 32 from rfl]; omega
  · rw [fdp _ _ (by decide), fdp _ _ (by decide)]; rw [show ((2 : Int) ^ 6) = 64 from rfl]; omega
  · rw [fdp _ _ (by decide), fdp _ _ (by decide)]; rw [show ((2 : Int) ^ 7) = 128 from rfl]; omega
  · rw [fdp _ _ (by decide), fdp _ _ (by decide)]; rw [show ((2 : Int) ^ 8) = 256 from rfl]; omega
theorem ar6 {hi x r s m a : Int} (hx : x = 0 ∨ x = 1) (r0 : 0 ≤ r) (r1 : r < 2) (s0 : 0 ≤ s) (s1 : s < 2) (hm : m = hi * 4 + x * 2 + r) (ha : a = hi * 4 + (1 - x) * 2 + s) :
    (∀ j ≤ 8, m.fdiv (2 ^ j) = a.fdiv (2 ^ j) ↔ 8 - j ≤ 6) ∧ (a < m ↔ x = 1) ∧ (a > m ↔ x = 0) := by
  refine ⟨fun j hj => ?_, by omega, by omega⟩
  rcases (by omega : j = 0 ∨ j = 1 ∨ j = 2 ∨ j = 3 ∨ j = 4 ∨ j = 5 ∨ j = 6 ∨ j = 7 ∨ j = 8) with rfl | rfl | rfl | rfl | rfl | rfl | rfl | rfl | rfl
  · rw [fdp _ _ (by decide), fdp _ _ (by decide)]; rw [show ((2 : Int) ^ 0) = 1 from rfl]; omega
  · rw [fdp _ _ (by decide), fdp _ _ (by decide)]; rw [show ((2 : Int) ^ 1) = 2 from rfl]; omega
  · rw [fdp _ _ (by decide), fdp _ _ (by decide)]; rw [show ((2 : Int) ^ 2) = 4 from rfl]; omega
  · rw [fdp _ _ (by decide), fdp _ _ (by decide)]; rw [show ((2 : Int) ^ 3) = 8 from rfl]; omega
  · rw [fdp _ _ (by decide), fdp _ _ (by decide)]; rw [show ((2 : Int) ^ 4) = 16 from rfl]; omega
  · rw [fdp _ _ (by decide), fdp _ _ (by decide)]; rw [show ((2 : Int) ^ 5) = 32 from rfl]; omega
  · rw [fdp _ _ (by decide), fdp _ _ (by decide)]; rw [show ((2 : Int) ^ 6) = 64 from rfl]; omega
  · rw [fdp _ _ (by decide), fdp _ _ (by decide)]; rw [show ((2 : Int) ^ 7) = 128 from rfl]; omega
  · rw [fdp _ _ (by decide), fdp _ _ (by decide)]; rw [show ((2 : Int) ^ 8) = 256 from rfl]; omega
theorem ar7 {hi x r s m a : Int} (hx : x = 0 ∨ x = 1) (r0 : 0 ≤ r) (r1 : r < 1) (s0 : 0 ≤ s) (s1 : s < 1) (hm : m = hi * 2 + x * 1 + r) (ha : a = hi * 2 + (1 - x) * 1 + s) :
    (∀ j ≤ 8, m.fdiv (2 ^ j) = a.fdiv (2 ^ j) ↔ 8 - j ≤ 7) ∧ (a < m ↔ x = 1) ∧ (a > m ↔ x = 0) := by
  refine ⟨fun j hj => ?_, by omega, by omega⟩
  rcases (by omega : j = 0 ∨ j = 1 ∨ j = 2 ∨ j = 3 ∨ j = 4 ∨ j = 5 ∨ j = 6 ∨ j = 7 ∨ j = 8) with rfl | rfl | rfl | rfl | rfl | rfl | rfl | rfl | rfl
  · rw [fdp _ _ (by decide), fdp _ _ (by decide)]; rw [show ((2 : Int) ^ 0) = 1 from rfl]; omega
  · rw [fdp _ _ (by decide), fdp _ _ (by decide)]; rw [show ((2 : Int) ^ 1) = 2 from rfl]; omega
  · rw [fdp _ _ (by decide), fdp _ _ (by decide)]; rw [show ((2 : Int) ^ 2) = 4 from rfl]; omega
  · rw [fdp _ _ (by decide), fdp _ _ (by decide)]; rw [show ((2 : Int) ^ 3) = 8 from rfl]; omega
  · rw [fdp _ _ (by decide), fdp _ _ (by decide)]; rw [show ((2 : Int) ^ 4) = 16 from rfl]; omega
  · rw [fdp _ _ (by decide), fdp _ _ (by decide)]; rw [show ((2 : Int) ^ 5) = 32 from rfl]; omega
  · rw [fdp _ _ (by decide), fdp _ _ (by decide)]; rw [show ((2 : Int) ^ 6) = 64 from rfl]; omega
  · rw [fdp _ _ (by decide), fdp _ _ (by decide)]; rw [show ((2 : Int) ^ 7) = 128 from rfl]; omega
  · rw [fdp _ _ (by decide), fdp _ _ (by decide)]; rw [show ((2 : Int) ^ 8) = 256 from rfl]; omega
theorem rules_list {n : Int} {wb : Bool} (hw : wayB n wb) (b7 b6 b5 b4 b3 b2 b1 b0 : Bool) : rulesOf n (nm8 b7 b6 b5 b4 b3 b2 b1 b0) = [(⟨#[47, cb (!b7)]⟩, (!b7) == wb), (⟨#[47, cb b7, cb (!b6)]⟩, (!b6) == wb), (⟨#[47, cb b7, cb b6, cb (!b5)]⟩, (!b5) == wb), (⟨#[47, cb b7, cb b6, cb b5, cb (!b4)]⟩, (!b4) == wb), (⟨#[47, cb b7, cb b6, cb b5, cb b4, cb (!b3)]⟩, (!b3) == wb), (⟨#[47, cb b7, cb b6, cb b5, cb b4, cb b3, cb (!b2)]⟩, (!b2) == wb), (⟨#[47, cb b7, cb b6, cb b5, cb b4, cb b3, cb b2, cb (!b1)]⟩, (!b1) == wb), (⟨#[47, cb b7, cb b6, cb b5, cb b4, cb b3, cb b2, cb b1, cb (!b0)]⟩, (!b0) == wb), (nm8 b7 b6 b5 b4 b3 b2 b1 b0, false)] := by
  show [ruleK n (nm8 b7 b6 b5 b4 b3 b2 b1 b0) 0, ruleK n (nm8 b7 b6 b5 b4 b3 b2 b1 b0) 1, ruleK n (nm8 b7 b6 b5 b4 b3 b2 b1 b0) 2, ruleK n (nm8 b7 b6 b5 b4 b3 b2 b1 b0) 3, ruleK n (nm8 b7 b6 b5 b4 b3 b2 b1 b0) 4, ruleK n (nm8 b7 b6 b5 b4 b3 b2 b1 b0) 5, ruleK n (nm8 b7 b6 b5 b4 b3 b2 b1 b0) 6, ruleK n (nm8 b7 b6 b5 b4 b3 b2 b1 b0) 7, (nm8 b7 b6 b5 b4 b3 b2 b1 b0, false)] = _
  rw [rule0 hw, rule1 hw, rule2 hw, rule3 hw, rule4 hw, rule5 hw, rule6 hw, rule7 hw]
theorem says0 {n a : Int} {wb : Bool} (hw : wayB n wb) (b7 b6 b5 b4 b3 b2 b1 b0 a6 a5 a4 a3 a2 a1 a0 : Bool) (hm : n.fmod 256 = V b7 b6 b5 b4 b3 b2 b1 b0) (ha : a = V (!b7) a6 a5 a4 a3 a2 a1 a0) : Says (rulesOf n (nm8 b7 b6 b5 b4 b3 b2 b1 b0)) (nm8 (!b7) a6 a5 a4 a3 a2 a1 a0) n a := by
  rw [rules_list hw]
  have R0 : reach (⟨#[47, cb (!b7)]⟩ : Str) (nm8 (!b7) a6 a5 a4 a3 a2 a1 a0) = 3 := by rw [reach0 b7 b6 b5 b4 b3 b2 b1 b0 (!b7) a6 a5 a4 a3 a2 a1 a0]; simp
  have R1 : reach (⟨#[47, cb b7, cb (!b6)]⟩ : Str) (nm8 (!b7) a6 a5 a4 a3 a2 a1 a0) = 0 := by rw [reach1 b7 b6 b5 b4 b3 b2 b1 b0 (!b7) a6 a5 a4 a3 a2 a1 a0]; simp
  have R2 : reach (⟨#[47, cb b7, cb b6, cb (!b5)]⟩ : Str) (nm8 (!b7) a6 a5 a4 a3 a2 a1 a0) = 0 := by rw [reach2 b7 b6 b5 b4 b3 b2 b1 b0 (!b7) a6 a5 a4 a3 a2 a1 a0]; simp
  have R3 : reach (⟨#[47, cb b7, cb b6, cb b5, cb (!b4)]⟩ : Str) (nm8 (!b7) a6 a5 a4 a3 a2 a1 a0) = 0 := by rw [reach3 b7 b6 b5 b4 b3 b2 b1 b0 (!b7) a6 a5 a4 a3 a2 a1 a0]; simp
  have R4 : reach (⟨#[47, cb b7, cb b6, cb b5, cb b4, cb (!b3)]⟩ : Str) (nm8 (!b7) a6 a5 a4 a3 a2 a1 a0) = 0 := by rw [reach4 b7 b6 b5 b4 b3 b2 b1 b0 (!b7) a6 a5 a4 a3 a2 a1 a0]; simp
  have R5 : reach (⟨#[47, cb b7, cb b6, cb b5, cb b4, cb b3, cb (!b2)]⟩ : Str) (nm8 (!b7) a6 a5 a4 a3 a2 a1 a0) = 0 := by rw [reach5 b7 b6 b5 b4 b3 b2 b1 b0 (!b7) a6 a5 a4 a3 a2 a1 a0]; simp
  have R6 : reach (⟨#[47, cb b7, cb b6, cb b5, cb b4, cb b3, cb b2, cb (!b1)]⟩ : Str) (nm8 (!b7) a6 a5 a4 a3 a2 a1 a0) = 0 := by rw [reach6 b7 b6 b5 b4 b3 b2 b1 b0 (!b7) a6 a5 a4 a3 a2 a1 a0]; simp
  have R7 : reach (⟨#[47, cb b7, cb b6, cb b5, cb b4, cb b3, cb b2, cb b1, cb (!b0)]⟩ : Str) (nm8 (!b7) a6 a5 a4 a3 a2 a1 a0) = 0 := by rw [reach7 b7 b6 b5 b4 b3 b2 b1 b0 (!b7) a6 a5 a4 a3 a2 a1 a0]; simp
  have R8 : reach (nm8 b7 b6 b5 b4 b3 b2 b1 b0) (nm8 (!b7) a6 a5 a4 a3 a2 a1 a0) = 0 := by rw [reach8 b7 b6 b5 b4 b3 b2 b1 b0 (!b7) a6 a5 a4 a3 a2 a1 a0]; simp
  have ar := ar0 (hi := 0) (x := bi b7) (r := 64 * bi b6 + 32 * bi b5 + 16 * bi b4 + 8 * bi b3 + 4 * bi b2 + 2 * bi b1 + bi b0) (s := 64 * bi a6 + 32 * bi a5 + 16 * bi a4 + 8 * bi a3 + 4 * bi a2 + 2 * bi a1 + bi a0) (m := n.fmod 256) (a := a) (bi_cases _) (by
    have zb6 := bi_rng b6
    have zb5 := bi_rng b5
    have zb4 := bi_rng b4
    have zb3 := bi_rng b3
    have zb2 := bi_rng b2
    have zb1 := bi_rng b1
    have zb0 := bi_rng b0
    have za6 := bi_rng a6
    have za5 := bi_rng a5
    have za4 := bi_rng a4
    have za3 := bi_rng a3
    have za2 := bi_rng a2
    have za1 := bi_rng a1
    have za0 := bi_rng a0
    omega) (by
    have zb6 := bi_rng b6
    have zb5 := bi_rng b5
    have zb4 := bi_rng b4
    have zb3 := bi_rng b3
    have zb2 := bi_rng b2
    have zb1 := bi_rng b1
    have zb0 := bi_rng b0
    have za6 := bi_rng a6
    have za5 := bi_rng a5
    have za4 := bi_rng a4
    have za3 := bi_rng a3
    have za2 := bi_rng a2
    have za1 := bi_rng a1
    have za0 := bi_rng a0
    omega) (by
    have zb6 := bi_rng b6
    have zb5 := bi_rng b5
    have zb4 := bi_rng b4
    have zb3 := bi_rng b3
    have zb2 := bi_rng b2
    have zb1 := bi_rng b1
    have zb0 := bi_rng b0
    have za6 := bi_rng a6
    have za5 := bi_rng a5
    have za4 := bi_rng a4
    have za3 := bi_rng a3
    have za2 := bi_rng a2
    have za1 := bi_rng a1
    have za0 := bi_rng a0
    omega) (by
    have zb6 := bi_rng b6
    have zb5 := bi_rng b5
    have zb4 := bi_rng b4
    have zb3 := bi_rng b3
    have zb2 := bi_rng b2
    have zb1 := bi_rng b1
    have zb0 := bi_rng b0
    have za6 := bi_rng a6
    have za5 := bi_rng a5
    have za4 := bi_rng a4
    have za3 := bi_rng a3
    have za2 := bi_rng a2
    have za1 := bi_rng a1
    have za0 := bi_rng a0
    omega) (by rw [hm]; unfold V; omega) (by rw [ha]; unfold V; rw [bi_not]; omega)
  refine ⟨0, ((!b7) == wb), by decide, ⟨_, .head _, R0, rfl⟩, ?_, ?_, ?_⟩
  · intro q hq hr
    simp only [List.mem_cons, List.not_mem_nil, or_false] at hq
    rcases hq with rfl | rfl | rfl | rfl | rfl | rfl | rfl | rfl | rfl
    · exact ⟨R0, rfl⟩
    · exact absurd R1 hr
    · exact absurd R2 hr
    · exact absurd R3 hr
    · exact absurd R4 hr
    · exact absurd R5 hr
    · exact absurd R6 hr
    · exact absurd R7 hr
    · exact absurd R8 hr
  · exact ar.1
  · rw [show (n.fdiv 256).fmod 2 = bi wb from hw, ar.2.1, ar.2.2]
    cases b7 <;> cases wb <;> decide
theorem says1 {n a : Int} {wb : Bool} (hw : wayB n wb) (b7 b6 b5 b4 b3 b2 b1 b0 a5 a4 a3 a2 a1 a0 : Bool) (hm : n.fmod 256 = V b7 b6 b5 b4 b3 b2 b1 b0) (ha : a = V b7 (!b6) a5 a4 a3 a2 a1 a0) : Says (rulesOf n (nm8 b7 b6 b5 b4 b3 b2 b1 b0)) (nm8 b7 (!b6) a5 a4 a3 a2 a1 a0) n a := by
  rw [rules_list hw]
  have R0 : reach (⟨#[47, cb (!b7)]⟩ : Str) (nm8 b7 (!b6) a5 a4 a3 a2 a1 a0) = 0 := by rw [reach0 b7 b6 b5 b4 b3 b2 b1 b0 b7 (!b6) a5 a4 a3 a2 a1 a0]; simp
  have R1 : reach (⟨#[47, cb b7, cb (!b6)]⟩ : Str) (nm8 b7 (!b6) a5 a4 a3 a2 a1 a0) = 4 := by rw [reach1 b7 b6 b5 b4 b3 b2 b1 b0 b7 (!b6) a5 a4 a3 a2 a1 a0]; simp
  have R2 : reach (⟨#[47, cb b7, cb b6, cb (!b5)]⟩ : Str) (nm8 b7 (!b6) a5 a4 a3 a2 a1 a0) = 0 := by rw [reach2 b7 b6 b5 b4 b3 b2 b1 b0 b7 (!b6) a5 a4 a3 a2 a1 a0]; simp
  have R3 : reach (⟨#[47, cb b7, cb b6, cb b5, cb (!b4)]⟩ : Str) (nm8 b7 (!b6) a5 a4 a3 a2 a1 a0) = 0 := by rw [reach3 b7 b6 b5 b4 b3 b2 b1 b0 b7 (!b6) a5 a4 a3 a2 a1 a0]; simp
  have R4 : reach (⟨#[47, cb b7, cb b6, cb b5, cb b4, cb (!b3)]⟩ : Str) (nm8 b7 (!b6) a5 a4 a3 a2 a1 a0) = 0 := by rw [reach4 b7 b6 b5 b4 b3 b2 b1 b0 b7 (!b6) a5 a4 a3 a2 a1 a0]; simp
  have R5 : reach (⟨#[47, cb b7, cb b6, cb b5, cb b4, cb b3, cb (!b2)]⟩ : Str) (nm8 b7 (!b6) a5 a4 a3 a2 a1 a0) = 0 := by rw [reach5 b7 b6 b5 b4 b3 b2 b1 b0 b7 (!b6) a5 a4 a3 a2 a1 a0]; simp
  have R6 : reach (⟨#[47, cb b7, cb b6, cb b5, cb b4, cb b3, cb b2, cb (!b1)]⟩ : Str) (nm8 b7 (!b6) a5 a4 a3 a2 a1 a0) = 0 := by rw [reach6 b7 b6 b5 b4 b3 b2 b1 b0 b7 (!b6) a5 a4 a3 a2 a1 a0]; simp
  have R7 : reach (⟨#[47, cb b7, cb b6, cb b5, cb b4, cb b3, cb b2, cb b1, cb (!b0)]⟩ : Str) (nm8 b7 (!b6) a5 a4 a3 a2 a1 a0) = 0 := by rw [reach7 b7 b6 b5 b4 b3 b2 b1 b0 b7 (!b6) a5 a4 a3 a2 a1 a0]; simp
  have R8 : reach (nm8 b7 b6 b5 b4 b3 b2 b1 b0) (nm8 b7 (!b6) a5 a4 a3 a2 a1 a0) = 0 := by rw [reach8 b7 b6 b5 b4 b3 b2 b1 b0 b7 (!b6) a5 a4 a3 a2 a1 a0]; simp
  have ar := ar1 (hi := bi b7) (x := bi b6) (r := 32 * bi b5 + 16 * bi b4 + 8 * bi b3 + 4 * bi b2 + 2 * bi b1 + bi b0) (s := 32 * bi a5 + 16 * bi a4 + 8 * bi a3 + 4 * bi a2 + 2 * bi a1 + bi a0) (m := n.fmod 256) (a := a) (bi_cases _) (by
    have zb5 := bi_rng b5
    have zb4 := bi_rng b4
    have zb3 := bi_rng b3
    have zb2 := bi_rng b2
    have zb1 := bi_rng b1
    have zb0 := bi_rng b0
    have za5 := bi_rng a5
    have za4 := bi_rng a4
    have za3 := bi_rng a3
    have za2 := bi_rng a2
    have za1 := bi_rng a1
    have za0 := bi_rng a0
    omega) (by
    have zb5 := bi_rng b5
    have zb4 := bi_rng b4
    have zb3 := bi_rng b3
    have zb2 := bi_rng b2
    have zb1 := bi_rng b1
    have zb0 := bi_rng b0
    have za5 := bi_rng a5
    have za4 := bi_rng a4
    have za3 := bi_rng a3
    have za2 := bi_rng a2
    have za1 := bi_rng a1
    have za0 := bi_rng a0
    omega) (by
    have zb5 := bi_rng b5
    have zb4 := bi_rng b4
    have zb3 := bi_rng b3
    have zb2 := bi_rng b2
    have zb1 := bi_rng b1
    have zb0 := bi_rng b0
    have za5 := bi_rng a5
    have za4 := bi_rng a4
    have za3 := bi_rng a3
    have za2 := bi_rng a2
    have za1 := bi_rng a1
    have za0 := bi_rng a0
    omega) (by
    have zb5 := bi_rng b5
    have zb4 := bi_rng b4
    have zb3 := bi_rng b3
    have zb2 := bi_rng b2
    have zb1 := bi_rng b1
    have zb0 := bi_rng b0
    have za5 := bi_rng a5
    have za4 := bi_rng a4
    have za3 := bi_rng a3
    have za2 := bi_rng a2
    have za1 := bi_rng a1
    have za0 := bi_rng a0
    omega) (by rw [hm]; unfold V; omega) (by rw [ha]; unfold V; rw [bi_not]; omega)
  refine ⟨1, ((!b6) == wb), by decide, ⟨_, .tail _ (.head _), R1, rfl⟩, ?_, ?_, ?_⟩
  · intro q hq hr
    simp only [List.mem_cons, List.not_mem_nil, or_false] at hq
    rcases hq with rfl | rfl | rfl | rfl | rfl | rfl | rfl | rfl | rfl
    · exact absurd R0 hr
    · exact ⟨R1, rfl⟩
    · exact absurd R2 hr
    · exact absurd R3 hr
    · exact absurd R4 hr
    · exact absurd R5 hr
    · exact absurd R6 hr
    · exact absurd R7 hr
    · exact absurd R8 hr
  · exact ar.1
  · rw [show (n.fdiv 256).fmod 2 = bi wb from hw, ar.2.1, ar.2.2]
    cases b6 <;> cases wb <;> decide
theorem says2 {n a : Int} {wb : Bool} (hw : wayB n wb) (b7 b6 b5 b4 b3 b2 b1 b0 a4 a3 a2 a1 a0 : Bool) (hm : n.fmod 256 = V b7 b6 b5 b4 b3 b2 b1 b0) (ha : a = V b7 b6 (!b5) a4 a3 a2 a1 a0) : Says (rulesOf n (nm8 b7 b6 b5 b4 b3 b2 b1 b0)) (nm8 b7 b6 (!b5) a4 a3 a2 a1 a0) n a := by
  rw [rules_list hw]
  have R0 : reach (⟨#[47, cb (!b7)]⟩ : Str) (nm8 b7 b6 (!b5) a4 a3 a2 a1 a0) = 0 := by rw [reach0 b7 b6 b5 b4 b3 b2 b1 b0 b7 b6 (!b5) a4 a3 a2 a1 a0]; simp
  have R1 : reach (⟨#[47, cb b7, cb (!b6)]⟩ : Str) (nm8 b7 b6 (!b5) a4 a3 a2 a1 a0) = 0 := by rw [reach1 b7 b6 b5 b4 b3 b2 b1 b0 b7 b6 (!b5) a4 a3 a2 a1 a0]; simp
  have R2 : reach (⟨#[47, cb b7, cb b6, cb (!b5)]⟩ : Str) (nm8 b7 b6 (!b5) a4 a3 a2 a1 a0) = 5 := by rw [reach2 b7 b6 b5 b4 b3 b2 b1 b0 b7 b6 (!b5) a4 a3 a2 a1 a0]; simp
  have R3 : reach (⟨#[47, cb b7, cb b6, cb b5, cb (!b4)]⟩ : Str) (nm8 b7 b6 (!b5) a4 a3 a2 a1 a0) = 0 := by rw [reach3 b7 b6 b5 b4 b3 b2 b1 b0 b7 b6 (!b5) a4 a3 a2 a1 a0]; simp
  have R4 : reach (⟨#[47, cb b7, cb b6, cb b5, cb b4, cb (!b3)]⟩ : Str) (nm8 b7 b6 (!b5) a4 a3 a2 a1 a0) = 0 := by rw [reach4 b7 b6 b5 b4 b3 b2 b1 b0 b7 b6 (!b5) a4 a3 a2 a1 a0]; simp
  have R5 : reach (⟨#[47, cb b7, cb b6, cb b5, cb b4, cb b3, cb (!b2)]⟩ : Str) (nm8 b7 b6 (!b5) a4 a3 a2 a1 a0) = 0 := by rw [reach5 b7 b6 b5 b4 b3 b2 b1 b0 b7 b6 (!b5) a4 a3 a2 a1 a0]; simp
  have R6 : reach (⟨#[47, cb b7, cb b6, cb b5, cb b4, cb b3, cb b2, cb (!b1)]⟩ : Str) (nm8 b7 b6 (!b5) a4 a3 a2 a1 a0) = 0 := by rw [reach6 b7 b6 b5 b4 b3 b2 b1 b0 b7 b6 (!b5) a4 a3 a2 a1 a0]; simp
  have R7 : reach (⟨#[47, cb b7, cb b6, cb b5, cb b4, cb b3, cb b2, cb b1, cb (!b0)]⟩ : Str) (nm8 b7 b6 (!b5) a4 a3 a2 a1 a0) = 0 := by rw [reach7 b7 b6 b5 b4 b3 b2 b1 b0 b7 b6 (!b5) a4 a3 a2 a1 a0]; simp
  have R8 : reach (nm8 b7 b6 b5 b4 b3 b2 b1 b0) (nm8 b7 b6 (!b5) a4 a3 a2 a1 a0) = 0 := by rw [reach8 b7 b6 b5 b4 b3 b2 b1 b0 b7 b6 (!b5) a4 a3 a2 a1 a0]; simp
  have ar := ar2 (hi := 2 * bi b7 + bi b6) (x := bi b5) (r := 16 * bi b4 + 8 * bi b3 + 4 * bi b2 + 2 * bi b1 + bi b0) (s := 16 * bi a4 + 8 * bi a3 + 4 * bi a2 + 2 * bi a1 + bi a0) (m := n.fmod 256) (a := a) (bi_cases _) (by
    have zb4 := bi_rng b4
    have zb3 := bi_rng b3
    have zb2 := bi_rng b2
    have zb1 := bi_rng b1
    have zb0 := bi_rng b0
    have za4 := bi_rng a4
    have za3 := bi_rng a3
    have za2 := bi_rng a2
    have za1 := bi_rng a1
    have za0 := bi_rng a0
    omega) (by
    have zb4 := bi_rng b4
    have zb3 := bi_rng b3
    have zb2 := bi_rng b2
    have zb1 := bi_rng b1
    have zb0 := bi_rng b0
    have za4 := bi_rng a4
    have za3 := bi_rng a3
    have za2 := bi_rng a2
    have za1 := bi_rng a1
    have za0 := bi_rng a0
    omega) (by
    have zb4 := bi_rng b4
    have zb3 := bi_rng b3
    have zb2 := bi_rng b2
    have zb1 := bi_rng b1
    have zb0 := bi_rng b0
    have za4 := bi_rng a4
    have za3 := bi_rng a3
    have za2 := bi_rng a2
    have za1 := bi_rng a1
    have za0 := bi_rng a0
    omega) (by
    have zb4 := bi_rng b4
    have zb3 := bi_rng b3
    have zb2 := bi_rng b2
    have zb1 := bi_rng b1
    have zb0 := bi_rng b0
    have za4 := bi_rng a4
    have za3 := bi_rng a3
    have za2 := bi_rng a2
    have za1 := bi_rng a1
    have za0 := bi_rng a0
    omega) (by rw [hm]; unfold V; omega) (by rw [ha]; unfold V; rw [bi_not]; omega)
  refine ⟨2, ((!b5) == wb), by decide, ⟨_, .tail _ (.tail _ (.head _)), R2, rfl⟩, ?_, ?_, ?_⟩
  · intro q hq hr
    simp only [List.mem_cons, List.not_mem_nil, or_false] at hq
    rcases hq with rfl | rfl | rfl | rfl | rfl | rfl | rfl | rfl | rfl
    · exact absurd R0 hr
    · exact absurd R1 hr
    · exact ⟨R2, rfl⟩
    · exact absurd R3 hr
    · exact absurd R4 hr
    · exact absurd R5 hr
    · exact absurd R6 hr
    · exact absurd R7 hr
    · exact absurd R8 hr
  · exact ar.1
  · rw [show (n.fdiv 256).fmod 2 = bi wb from hw, ar.2.1, ar.2.2]
    cases b5 <;> cases wb <;> decide
theorem says3 {n a : Int} {wb : Bool} (hw : wayB n wb) (b7 b6 b5 b4 b3 b2 b1 b0 a3 a2 a1 a0 : Bool) (hm : n.fmod 256 = V b7 b6 b5 b4 b3 b2 b1 b0) (ha : a = V b7 b6 b5 (!b4) a3 a2 a1 a0) : Says (rulesOf n (nm8 b7 b6 b5 b4 b3 b2 b1 b0)) (nm8 b7 b6 b5 (!b4) a3 a2 a1 a0) n a := by
  rw [rules_list hw]
  have R0 : reach (⟨#[47, cb (!b7)]⟩ : Str) (nm8 b7 b6 b5 (!b4) a3 a2 a1 a0) = 0 := by rw [reach0 b7 b6 b5 b4 b3 b2 b1 b0 b7 b6 b5 (!b4) a3 a2 a1 a0]; simp
  have R1 : reach (⟨#[47, cb b7, cb (!b6)]⟩ : Str) (nm8 b7 b6 b5 (!b4) a3 a2 a1 a0) = 0 := by rw [reach1 b7 b6 b5 b4 b3 b2 b1 b0 b7 b6 b5 (!b4) a3 a2 a1 a0]; simp
  have R2 : reach (⟨#[47, cb b7, cb b6, cb (!b5)]⟩ : Str) (nm8 b7 b6 b5 (!b4) a3 a2 a1 a0) = 0 := by rw [reach2 b7 b6 b5 b4 b3 b2 b1 b0 b7 b6 b5 (!b4) a3 a2 a1 a0]; simp
  have R3 : reach (⟨#[47, cb b7, cb b6, cb b5, cb (!b4)]⟩ : Str) (nm8 b7 b6 b5 (!b4) a3 a2 a1 a0) = 6 := by rw [reach3 b7 b6 b5 b4 b3 b2 b1 b0 b7 b6 b5 (!b4) a3 a2 a1 a0]; simp
  have R4 : reach (⟨#[47, cb b7, cb b6, cb b5, cb b4, cb (!b3)]⟩ : Str) (nm8 b7 b6 b5 (!b4) a3 a2 a1 a0) = 0 := by rw [reach4 b7 b6 b5 b4 b3 b2 b1 b0 b7 b6 b5 (!b4) a3 a2 a1 a0]; simp
  have R5 : reach (⟨#[47, cb b7, cb b6, cb b5, cb b4, cb b3, cb (!b2)]⟩ : Str) (nm8 b7 b6 b5 (!b4) a3 a2 a1 a0) = 0 := by rw [reach5 b7 b6 b5 b4 b3 b2 b1 b0 b7 b6 b5 (!b4) a3 a2 a1 a0]; simp
  have R6 : reach (⟨#[47, cb b7, cb b6, cb b5, cb b4, cb b3, cb b2, cb (!b1)]⟩ : Str) (nm8 b7 b6 b5 (!b4) a3 a2 a1 a0) = 0 := by rw [reach6 b7 b6 b5 b4 b3 b2 b1 b0 b7 b6 b5 (!b4) a3 a2 a1 a0]; simp
  have R7 : reach (⟨#[47, cb b7, cb b6, cb b5, cb b4, cb b3, cb b2, cb b1, cb (!b0)]⟩ : Str) (nm8 b7 b6 b5 (!b4) a3 a2 a1 a0) = 0 := by rw [reach7 b7 b6 b5 b4 b3 b2 b1 b0 b7 b6 b5 (!b4) a3 a2 a1 a0]; simp
  have R8 : reach (nm8 b7 b6 b5 b4 b3 b2 b1 b0) (nm8 b7 b6 b5 (!b4) a3 a2 a1 a0) = 0 := by rw [reach8 b7 b6 b5 b4 b3 b2 b1 b0 b7 b6 b5 (!b4) a3 a2 a1 a0]; simp
  have ar := ar3 (hi := 4 * bi b7 + 2 * bi b6 + bi b5) (x := bi b4) (r := 8 * bi b3 + 4 * bi b2 + 2 * bi b1 + bi b0) (s := 8 * bi a3 + 4 * bi a2 + 2 * bi a1 + bi a0) (m := n.fmod 256) (a := a) (bi_cases _) (by
    have zb3 := bi_rng b3
    have zb2 := bi_rng b2
    have zb1 := bi_rng b1
    have zb0 := bi_rng b0
    have za3 := bi_rng a3
    have za2 := bi_rng a2
    have za1 := bi_rng a1
    have za0 := bi_rng a0
    omega) (by
    have zb3 := bi_rng b3
    have zb2 := bi_rng b2
    have zb1 := bi_rng b1
    have zb0 := bi_rng b0
    have za3 := bi_rng a3
    have za2 := bi_rng a2
    have za1 := bi_rng a1
    have za0 := bi_rng a0
    omega) (by
    have zb3 := bi_rng b3
    have zb2 := bi_rng b2
    have zb1 := bi_rng b1
    have zb0 := bi_rng b0
    have za3 := bi_rng a3
    have za2 := bi_rng a2
    have za1 := bi_rng a1
    have za0 := bi_rng a0
    omega) (by
    have zb3 := bi_rng b3
    have zb2 := bi_rng b2
    have zb1 := bi_rng b1
    have zb0 := bi_rng b0
    have za3 := bi_rng a3
    have za2 := bi_rng a2
    have za1 := bi_rng a1
    have za0 := bi_rng a0
    omega) (by rw [hm]; unfold V; omega) (by rw [ha]; unfold V; rw [bi_not]; omega)
  refine ⟨3, ((!b4) == wb), by decide, ⟨_, .tail _ (.tail _ (.tail _ (.head _))), R3, rfl⟩, ?_, ?_, ?_⟩
  · intro q hq hr
    simp only [List.mem_cons, List.not_mem_nil, or_false] at hq
    rcases hq with rfl | rfl | rfl | rfl | rfl | rfl | rfl | rfl | rfl
    · exact absurd R0 hr
    · exact absurd R1 hr
    · exact absurd R2 hr
    · exact ⟨R3, rfl⟩
    · exact absurd R4 hr
    · exact absurd R5 hr
    · exact absurd R6 hr
    · exact absurd R7 hr
    · exact absurd R8 hr
  · exact ar.1
  · rw [show (n.fdiv 256).fmod 2 = bi wb from hw, ar.2.1, ar.2.2]
    cases b4 <;> cases wb <;> decide
theorem says4 {n a : Int} {wb : Bool} (hw : wayB n wb) (b7 b6 b5 b4 b3 b2 b1 b0 a2 a1 a0 : Bool) (hm : n.fmod 256 = V b7 b6 b5 b4 b3 b2 b1 b0) (ha : a = V b7 b6 b5 b4 (!b3) a2 a1 a0) : Says (rulesOf n (nm8 b7 b6 b5 b4 b3 b2 b1 b0)) (nm8 b7 b6 b5 b4 (!b3) a2 a1 a0) n a := by
  rw [rules_list hw]
  have R0 : reach (⟨#[47, cb (!b7)]⟩ : Str) (nm8 b7 b6 b5 b4 (!b3) a2 a1 a0) = 0 := by rw [reach0 b7 b6 b5 b4 b3 b2 b1 b0 b7 b6 b5 b4 (!b3) a2 a1 a0]; simp
  have R1 : reach (⟨#[47, cb b7, cb (!b6)]⟩ : Str) (nm8 b7 b6 b5 b4 (!b3) a2 a1 a0) = 0 := by rw [reach1 b7 b6 b5 b4 b3 b2 b1 b0 b7 b6 b5 b4 (!b3) a2 a1 a0]; simp
  have R2 : reach (⟨#[47, cb b7, cb b6, cb (!b5)]⟩ : Str) (nm8 b7 b6 b5 b4 (!b3) a2 a1 a0) = 0 := by rw [reach2 b7 b6 b5 b4 b3 b2 b1 b0 b7 b6 b5 b4 (!b3) a2 a1 a0]; simp
  have R3 : reach (⟨#[47, cb b7, cb b6, cb b5, cb (!b4)]⟩ : Str) (nm8 b7 b6 b5 b4 (!b3) a2 a1 a0) = 0 := by rw [reach3 b7 b6 b5 b4 b3 b2 b1 b0 b7 b6 b5 b4 (!b3) a2 a1 a0]; simp
  have R4 : reach (⟨#[47, cb b7, cb b6, cb b5, cb b4, cb (!b3)]⟩ : Str) (nm8 b7 b6 b5 b4 (!b3) a2 a1 a0) = 7 := by rw [reach4 b7 b6 b5 b4 b3 b2 b1 b0 b7 b6 b5 b4 (!b3) a2 a1 a0]; simp
  have R5 : reach (⟨#[47, cb b7, cb b6, cb b5, cb b4, cb b3, cb (!b2)]⟩ : Str) (nm8 b7 b6 b5 b4 (!b3) a2 a1 a0) = 0 := by rw [reach5 b7 b6 b5 b4 b3 b2 b1 b0 b7 b6 b5 b4 (!b3) a2 a1 a0]; simp
  have R6 : reach (⟨#[47, cb b7, cb b6, cb b5, cb b4, cb b3, cb b2, cb (!b1)]⟩ : Str) (nm8 b7 b6 b5 b4 (!b3) a2 a1 a0) = 0 := by rw [reach6 b7 b6 b5 b4 b3 b2 b1 b0 b7 b6 b5 b4 (!b3) a2 a1 a0]; simp
  have R7 : reach (⟨#[47, cb b7, cb b6, cb b5, cb b4, cb b3, cb b2, cb b1, cb (!b0)]⟩ : Str) (nm8 b7 b6 b5 b4 (!b3) a2 a1 a0) = 0 := by rw [reach7 b7 b6 b5 b4 b3 b2 b1 b0 b7 b6 b5 b4 (!b3) a2 a1 a0]; simp
  have R8 : reach (nm8 b7 b6 b5 b4 b3 b2 b1 b0) (nm8 b7 b6 b5 b4 (!b3) a2 a1 a0) = 0 := by rw [reach8 b7 b6 b5 b4 b3 b2 b1 b0 b7 b6 b5 b4 (!b3) a2 a1 a0]; simp
  have ar := ar4 (hi := 8 * bi b7 + 4 * bi b6 + 2 * bi b5 + bi b4) (x := bi b3) (r := 4 * bi b2 + 2 * bi b1 + bi b0) (s := 4 * bi a2 + 2 * bi a1 + bi a0) (m := n.fmod 256) (a := a) (bi_cases _) (by
    have zb2 := bi_rng b2
    have zb1 := bi_rng b1
    have zb0 := bi_rng b0
    have za2 := bi_rng a2
    have za1 := bi_rng a1
    have za0 := bi_rng a0
    omega) (by
    have zb2 := bi_rng b2
    have zb1 := bi_rng b1
    have zb0 := bi_rng b0
    have za2 := bi_rng a2
    have za1 := bi_rng a1
    have za0 := bi_rng a0
    omega) (by
    have zb2 := bi_rng b2
    have zb1 := bi_rng b1
    have zb0 := bi_rng b0
    have za2 := bi_rng a2
    have za1 := bi_rng a1
    have za0 := bi_rng a0
    omega) (by
    have zb2 := bi_rng b2
    have zb1 := bi_rng b1
    have zb0 := bi_rng b0
    have za2 := bi_rng a2
    have za1 := bi_rng a1
    have za0 := bi_rng a0
    omega) (by rw [hm]; unfold V; omega) (by rw [ha]; unfold V; rw [bi_not]; omega)
  refine ⟨4, ((!b3) == wb), by decide, ⟨_, .tail _ (.tail _ (.tail _ (.tail _ (.head _)))), R4, rfl⟩, ?_, ?_, ?_⟩
  · intro q hq hr
    simp only [List.mem_cons, List.not_mem_nil, or_false] at hq
    rcases hq with rfl | rfl | rfl | rfl | rfl | rfl | rfl | rfl | rfl
    · exact absurd R0 hr
    · exact absurd R1 hr
    · exact absurd R2 hr
    · exact absurd R3 hr
    · exact ⟨R4, rfl⟩
    · exact absurd R5 hr
    · exact absurd R6 hr
    · exact absurd R7 hr
    · exact absurd R8 hr
  · exact ar.1
  · rw [show (n.fdiv 256).fmod 2 = bi wb from hw, ar.2.1, ar.2.2]
    cases b3 <;> cases wb <;> decide
theorem says5 {n a : Int} {wb : Bool} (hw : wayB n wb) (b7 b6 b5 b4 b3 b2 b1 b0 a1 a0 : Bool) (hm : n.fmod 256 = V b7 b6 b5 b4 b3 b2 b1 b0) (ha : a = V b7 b6 b5 b4 b3 (!b2) a1 a0) : Says (rulesOf n (nm8 b7 b6 b5 b4 b3 b2 b1 b0)) (nm8 b7 b6 b5 b4 b3 (!b2) a1 a0) n a := by
  rw [rules_list hw]
  have R0 : reach (⟨#[47, cb (!b7)]⟩ : Str) (nm8 b7 b6 b5 b4 b3 (!b2) a1 a0) = 0 := by rw [reach0 b7 b6 b5 b4 b3 b2 b1 b0 b7 b6 b5 b4 b3 (!b2) a1 a0]; simp
  have R1 : reach (⟨#[47, cb b7, cb (!b6)]⟩ : Str) (nm8 b7 b6 b5 b4 b3 (!b2) a1 a0) = 0 := by rw [reach1 b7 b6 b5 b4 b3 b2 b1 b0 b7 b6 b5 b4 b3 (!b2) a1 a0]; simp
  have R2 : reach (⟨#[47, cb b7, cb b6, cb (!b5)]⟩ : Str) (nm8 b7 b6 b5 b4 b3 (!b2) a1 a0) = 0 := by rw [reach2 b7 b6 b5 b4 b3 b2 b1 b0 b7 b6 b5 b4 b3 (!b2) a1 a0]; simp
  have R3 : reach (⟨#[47, cb b7, cb b6, cb b5, cb (!b4)]⟩ : Str) (nm8 b7 b6 b5 b4 b3 (!b2) a1 a0) = 0 := by rw [reach3 b7 b6 b5 b4 b3 b2 b1 b0 b7 b6 b5 b4 b3 (!b2) a1 a0]; simp
  have R4 : reach (⟨#[47, cb b7, cb b6, cb b5, cb b4, cb (!b3)]⟩ : Str) (nm8 b7 b6 b5 b4 b3 (!b2) a1 a0) = 0 := by rw [reach4 b7 b6 b5 b4 b3 b2 b1 b0 b7 b6 b5 b4 b3 (!b2) a1 a0]; simp
  have R5 : reach (⟨#[47, cb b7, cb b6, cb b5, cb b4, cb b3, cb (!b2)]⟩ : Str) (nm8 b7 b6 b5 b4 b3 (!b2) a1 a0) = 8 := by rw [reach5 b7 b6 b5 b4 b3 b2 b1 b0 b7 b6 b5 b4 b3 (!b2) a1 a0]; simp
  have R6 : reach (⟨#[47, cb b7, cb b6, cb b5, cb b4, cb b3, cb b2, cb (!b1)]⟩ : Str) (nm8 b7 b6 b5 b4 b3 (!b2) a1 a0) = 0 := by rw [reach6 b7 b6 b5 b4 b3 b2 b1 b0 b7 b6 b5 b4 b3 (!b2) a1 a0]; simp
  have R7 : reach (⟨#[47, cb b7, cb b6, cb b5, cb b4, cb b3, cb b2, cb b1, cb (!b0)]⟩ : Str) (nm8 b7 b6 b5 b4 b3 (!b2) a1 a0) = 0 := by rw [reach7 b7 b6 b5 b4 b3 b2 b1 b0 b7 b6 b5 b4 b3 (!b2) a1 a0]; simp
  have R8 : reach (nm8 b7 b6 b5 b4 b3 b2 b1 b0) (nm8 b7 b6 b5 b4 b3 (!b2) a1 a0) = 0 := by rw [reach8 b7 b6 b5 b4 b3 b2 b1 b0 b7 b6 b5 b4 b3 (!b2) a1 a0]; simp
  have ar := ar5 (hi := 16 * bi b7 + 8 * bi b6 + 4 * bi b5 + 2 * bi b4 + bi b3) (x := bi b2) (r := 2 * bi b1 + bi b0) (s := 2 * bi a1 + bi a0) (m := n.fmod 256) (a := a) (bi_cases _) (by
    have zb1 := bi_rng b1
    have zb0 := bi_rng b0
    have za1 := bi_rng a1
    have za0 := bi_rng a0
    omega) (by
    have zb1 := bi_rng b1
    have zb0 := bi_rng b0
    have za1 := bi_rng a1
    have za0 := bi_rng a0
    omega) (by
    have zb1 := bi_rng b1
    have zb0 := bi_rng b0
    have za1 := bi_rng a1
    have za0 := bi_rng a0
    omega) (by
    have zb1 := bi_rng b1
    have zb0 := bi_rng b0
    have za1 := bi_rng a1
    have za0 := bi_rng a0
    omega) (by rw [hm]; unfold V; omega) (by rw [ha]; unfold V; rw [bi_not]; omega)
  refine ⟨5, ((!b2) == wb), by decide, ⟨_, .tail _ (.tail _ (.tail _ (.tail _ (.tail _ (.head _))))), R5, rfl⟩, ?_, ?_, ?_⟩
  · intro q hq hr
    simp only [List.mem_cons, List.not_mem_nil, or_false] at hq
    rcases hq with rfl | rfl | rfl | rfl | rfl | rfl | rfl | rfl | rfl
    · exact absurd R0 hr
    · exact absurd R1 hr
    · exact absurd R2 hr
    · exact absurd R3 hr
    · exact absurd R4 hr
    · exact ⟨R5, rfl⟩
    · exact absurd R6 hr
    · exact absurd R7 hr
    · exact absurd R8 hr
  · exact ar.1
  · rw [show (n.fdiv 256).fmod 2 = bi wb from hw, ar.2.1, ar.2.2]
    cases b2 <;> cases wb <;> decide
theorem says6 {n a : Int} {wb : Bool} (hw : wayB n wb) (b7 b6 b5 b4 b3 b2 b1 b0 a0 : Bool) (hm : n.fmod 256 = V b7 b6 b5 b4 b3 b2 b1 b0) (ha : a = V b7 b6 b5 b4 b3 b2 (!b1) a0) : Says (rulesOf n (nm8 b7 b6 b5 b4 b3 b2 b1 b0)) (nm8 b7 b6 b5 b4 b3 b2 (!b1) a0) n a := by
  rw [rules_list hw]
  have R0 : reach (⟨#[47, cb (!b7)]⟩ : Str) (nm8 b7 b6 b5 b4 b3 b2 (!b1) a0) = 0 := by rw [reach0 b7 b6 b5 b4 b3 b2 b1 b0 b7 b6 b5 b4 b3 b2 (!b1) a0]; simp
  have R1 : reach (⟨#[47, cb b7, cb (!b6)]⟩ : Str) (nm8 b7 b6 b5 b4 b3 b2 (!b1) a0) = 0 := by rw [reach1 b7 b6 b5 b4 b3 b2 b1 b0 b7 b6 b5 b4 b3 b2 (!b1) a0]; simp
  have R2 : reach (⟨#[47, cb b7, cb b6, cb (!b5)]⟩ : Str) (nm8 b7 b6 b5 b4 b3 b2 (!b1) a0) = 0 := by rw [reach2 b7 b6 b5 b4 b3 b2 b1 b0 b7 b6 b5 b4 b3 b2 (!b1) a0]; simp
  have R3 : reach (⟨#[47, cb b7, cb b6, cb b5, cb (!b4)]⟩ : Str) (nm8 b7 b6 b5 b4 b3 b2 (!b1) a0) = 0 := by rw [reach3 b7 b6 b5 b4 b3 b2 b1 b0 b7 b6 b5 b4 b3 b2 (!b1) a0]; simp
  have R4 : reach (⟨#[47, cb b7, cb b6, cb b5, cb b4, cb (!b3)]⟩ : Str) (nm8 b7 b6 b5 b4 b3 b2 (!b1) a0) = 0 := by rw [reach4 b7 b6 b5 b4 b3 b2 b1 b0 b7 b6 b5 b4 b3 b2 (!b1) a0]; simp
  have R5 : reach (⟨#[47, cb b7, cb b6, cb b5, cb b4, cb b3, cb (!b2)]⟩ : Str) (nm8 b7 b6 b5 b4 b3 b2 (!b1) a0) = 0 := by rw [reach5 b7 b6 b5 b4 b3 b2 b1 b0 b7 b6 b5 b4 b3 b2 (!b1) a0]; simp
  have R6 : reach (⟨#[47, cb b7, cb b6, cb b5, cb b4, cb b3, cb b2, cb (!b1)]⟩ : Str) (nm8 b7 b6 b5 b4 b3 b2 (!b1) a0) = 9 := by rw [reach6 b7 b6 b5 b4 b3 b2 b1 b0 b7 b6 b5 b4 b3 b2 (!b1) a0]; simp
  have R7 : reach (⟨#[47, cb b7, cb b6, cb b5, cb b4, cb b3, cb b2, cb b1, cb (!b0)]⟩ : Str) (nm8 b7 b6 b5 b4 b3 b2 (!b1) a0) = 0 := by rw [reach7 b7 b6 b5 b4 b3 b2 b1 b0 b7 b6 b5 b4 b3 b2 (!b1) a0]; simp
  have R8 : reach (nm8 b7 b6 b5 b4 b3 b2 b1 b0) (nm8 b7 b6 b5 b4 b3 b2 (!b1) a0) = 0 := by rw [reach8 b7 b6 b5 b4 b3 b2 b1 b0 b7 b6 b5 b4 b3 b2 (!b1) a0]; simp
  have ar := ar6 (hi := 32 * bi b7 + 16 * bi b6 + 8 * bi b5 + 4 * bi b4 + 2 * bi b3 + bi b2) (x := bi b1) (r := bi b0) (s := bi a0) (m := n.fmod 256) (a := a) (bi_cases _) (by
    have zb0 := bi_rng b0
    have za0 := bi_rng a0
    omega) (by
    have zb0 := bi_rng b0
    have za0 := bi_rng a0
    omega) (by
    have zb0 := bi_rng b0
    have za0 := bi_rng a0
    omega) (by
    have zb0 := bi_rng b0
    have za0 := bi_rng a0
    omega) (by rw [hm]; unfold V; omega) (by rw [ha]; unfold V; rw [bi_not]; omega)
  refine ⟨6, ((!b1) == wb), by decide, ⟨_, .tail _ (.tail _ (.tail _ (.tail _ (.tail _ (.tail _ (.head _)))))), R6, rfl⟩, ?_, ?_, ?_⟩
  · intro q hq hr
    simp only [List.mem_cons, List.not_mem_nil, or_false] at hq
    rcases hq with rfl | rfl | rfl | rfl | rfl | rfl | rfl | rfl | rfl
    · exact absurd R0 hr
    · exact absurd R1 hr
    · exact absurd R2 hr
    · exact absurd R3 hr
    · exact absurd R4 hr
    · exact absurd R5 hr
    · exact ⟨R6, rfl⟩
    · exact absurd R7 hr
    · exact absurd R8 hr
  · exact ar.1
  · rw [show (n.fdiv 256).fmod 2 = bi wb from hw, ar.2.1, ar.2.2]
    cases b1 <;> cases wb <;> decide
theorem says7 {n a : Int} {wb : Bool} (hw : wayB n wb) (b7 b6 b5 b4 b3 b2 b1 b0 : Bool) (hm : n.fmod 256 = V b7 b6 b5 b4 b3 b2 b1 b0) (ha : a = V b7 b6 b5 b4 b3 b2 b1 (!b0)) : Says (rulesOf n (nm8 b7 b6 b5 b4 b3 b2 b1 b0)) (nm8 b7 b6 b5 b4 b3 b2 b1 (!b0)) n a := by
  rw [rules_list hw]
  have R0 : reach (⟨#[47, cb (!b7)]⟩ : Str) (nm8 b7 b6 b5 b4 b3 b2 b1 (!b0)) = 0 := by rw [reach0 b7 b6 b5 b4 b3 b2 b1 b0 b7 b6 b5 b4 b3 b2 b1 (!b0)]; simp
  have R1 : reach (⟨#[47, cb b7, cb (!b6)]⟩ : Str) (nm8 b7 b6 b5 b4 b3 b2 b1 (!b0)) = 0 := by rw [reach1 b7 b6 b5 b4 b3 b2 b1 b0 b7 b6 b5 b4 b3 b2 b1 (!b0)]; simp
  have R2 : reach (⟨#[47, cb b7, cb b6, cb (!b5)]⟩ : Str) (nm8 b7 b6 b5 b4 b3 b2 b1 (!b0)) = 0 := by rw [reach2 b7 b6 b5 b4 b3 b2 b1 b0 b7 b6 b5 b4 b3 b2 b1 (!b0)]; simp
  have R3 : reach (⟨#[47, cb b7, cb b6, cb b5, cb (!b4)]⟩ : Str) (nm8 b7 b6 b5 b4 b3 b2 b1 (!b0)) = 0 := by rw [reach3 b7 b6 b5 b4 b3 b2 b1 b0 b7 b6 b5 b4 b3 b2 b1 (!b0)]; simp
  have R4 : reach (⟨#[47, cb b7, cb b6, cb b5, cb b4, cb (!b3)]⟩ : Str) (nm8 b7 b6 b5 b4 b3 b2 b1 (!b0)) = 0 := by rw [reach4 b7 b6 b5 b4 b3 b2 b1 b0 b7 b6 b5 b4 b3 b2 b1 (!b0)]; simp
  have R5 : reach (⟨#[47, cb b7, cb b6, cb b5, cb b4, cb b3, cb (!b2)]⟩ : Str) (nm8 b7 b6 b5 b4 b3 b2 b1 (!b0)) = 0 := by rw [reach5 b7 b6 b5 b4 b3 b2 b1 b0 b7 b6 b5 b4 b3 b2 b1 (!b0)]; simp
  have R6 : reach (⟨#[47, cb b7, cb b6, cb b5, cb b4, cb b3, cb b2, cb (!b1)]⟩ : Str) (nm8 b7 b6 b5 b4 b3 b2 b1 (!b0)) = 0 := by rw [reach6 b7 b6 b5 b4 b3 b2 b1 b0 b7 b6 b5 b4 b3 b2 b1 (!b0)]; simp
  have R7 : reach (⟨#[47, cb b7, cb b6, cb b5, cb b4, cb b3, cb b2, cb b1, cb (!b0)]⟩ : Str) (nm8 b7 b6 b5 b4 b3 b2 b1 (!b0)) = 10 := by rw [reach7 b7 b6 b5 b4 b3 b2 b1 b0 b7 b6 b5 b4 b3 b2 b1 (!b0)]; simp
  have R8 : reach (nm8 b7 b6 b5 b4 b3 b2 b1 b0) (nm8 b7 b6 b5 b4 b3 b2 b1 (!b0)) = 0 := by rw [reach8 b7 b6 b5 b4 b3 b2 b1 b0 b7 b6 b5 b4 b3 b2 b1 (!b0)]; simp
  have ar := ar7 (hi := 64 * bi b7 + 32 * bi b6 + 16 * bi b5 + 8 * bi b4 + 4 * bi b3 + 2 * bi b2 + bi b1) (x := bi b0) (r := 0) (s := 0) (m := n.fmod 256) (a := a) (bi_cases _) (by
    omega) (by
    omega) (by
    omega) (by
    omega) (by rw [hm]; unfold V; omega) (by rw [ha]; unfold V; rw [bi_not]; omega)
  refine ⟨7, ((!b0) == wb), by decide, ⟨_, .tail _ (.tail _ (.tail _ (.tail _ (.tail _ (.tail _ (.tail _ (.head _))))))), R7, rfl⟩, ?_, ?_, ?_⟩
  · intro q hq hr
    simp only [List.mem_cons, List.not_mem_nil, or_false] at hq
    rcases hq with rfl | rfl | rfl | rfl | rfl | rfl | rfl | rfl | rfl
    · exact absurd R0 hr
    · exact absurd R1 hr
    · exact absurd R2 hr
    · exact absurd R3 hr
    · exact absurd R4 hr
    · exact absurd R5 hr
    · exact absurd R6 hr
    · exact ⟨R7, rfl⟩
    · exact absurd R8 hr
  · exact ar.1
  · rw [show (n.fdiv 256).fmod 2 = bi wb from hw, ar.2.1, ar.2.2]
    cases b0 <;> cases wb <;> decide
theorem says8 {n a : Int} {wb : Bool} (hw : wayB n wb) (b7 b6 b5 b4 b3 b2 b1 b0 : Bool) (hm : n.fmod 256 = V b7 b6 b5 b4 b3 b2 b1 b0) (ha : a = V b7 b6 b5 b4 b3 b2 b1 b0) : Says (rulesOf n (nm8 b7 b6 b5 b4 b3 b2 b1 b0)) (nm8 b7 b6 b5 b4 b3 b2 b1 b0) n a := by
  rw [rules_list hw]
  have R0 : reach (⟨#[47, cb (!b7)]⟩ : Str) (nm8 b7 b6 b5 b4 b3 b2 b1 b0) = 0 := by rw [reach0 b7 b6 b5 b4 b3 b2 b1 b0 b7 b6 b5 b4 b3 b2 b1 b0]; simp
  have R1 : reach (⟨#[47, cb b7, cb (!b6)]⟩ : Str) (nm8 b7 b6 b5 b4 b3 b2 b1 b0) = 0 := by rw [reach1 b7 b6 b5 b4 b3 b2 b1 b0 b7 b6 b5 b4 b3 b2 b1 b0]; simp
  have R2 : reach (⟨#[47, cb b7, cb b6, cb (!b5)]⟩ : Str) (nm8 b7 b6 b5 b4 b3 b2 b1 b0) = 0 := by rw [reach2 b7 b6 b5 b4 b3 b2 b1 b0 b7 b6 b5 b4 b3 b2 b1 b0]; simp
  have R3 : reach (⟨#[47, cb b7, cb b6, cb b5, cb (!b4)]⟩ : Str) (nm8 b7 b6 b5 b4 b3 b2 b1 b0) = 0 := by rw [reach3 b7 b6 b5 b4 b3 b2 b1 b0 b7 b6 b5 b4 b3 b2 b1 b0]; simp
  have R4 : reach (⟨#[47, cb b7, cb b6, cb b5, cb b4, cb (!b3)]⟩ : Str) (nm8 b7 b6 b5 b4 b3 b2 b1 b0) = 0 := by rw [reach4 b7 b6 b5 b4 b3 b2 b1 b0 b7 b6 b5 b4 b3 b2 b1 b0]; simp
  have R5 : reach (⟨#[47, cb b7, cb b6, cb b5, cb b4, cb b3, cb (!b2)]⟩ : Str) (nm8 b7 b6 b5 b4 b3 b2 b1 b0) = 0 := by rw [reach5 b7 b6 b5 b4 b3 b2 b1 b0 b7 b6 b5 b4 b3 b2 b1 b0]; simp
  have R6 : reach (⟨#[47, cb b7, cb b6, cb b5, cb b4, cb b3, cb b2, cb (!b1)]⟩ : Str) (nm8 b7 b6 b5 b4 b3 b2 b1 b0) = 0 := by rw [reach6 b7 b6 b5 b4 b3 b2 b1 b0 b7 b6 b5 b4 b3 b2 b1 b0]; simp
  have R7 : reach (⟨#[47, cb b7, cb b6, cb b5, cb b4, cb b3, cb b2, cb b1, cb (!b0)]⟩ : Str) (nm8 b7 b6 b5 b4 b3 b2 b1 b0) = 0 := by rw [reach7 b7 b6 b5 b4 b3 b2 b1 b0 b7 b6 b5 b4 b3 b2 b1 b0]; simp
  have R8 : reach (nm8 b7 b6 b5 b4 b3 b2 b1 b0) (nm8 b7 b6 b5 b4 b3 b2 b1 b0) = 11 := by rw [reach8 b7 b6 b5 b4 b3 b2 b1 b0 b7 b6 b5 b4 b3 b2 b1 b0]; simp
  refine ⟨8, false, by decide, ⟨_, .tail _ (.tail _ (.tail _ (.tail _ (.tail _ (.tail _ (.tail _ (.tail _ (.head _)))))))), R8, rfl⟩, ?_, ?_, ?_⟩
  · intro q hq hr
    simp only [List.mem_cons, List.not_mem_nil, or_false] at hq
    rcases hq with rfl | rfl | rfl | rfl | rfl | rfl | rfl | rfl | rfl
    · exact absurd R0 hr
    · exact absurd R1 hr
    · exact absurd R2 hr
    · exact absurd R3 hr
    · exact absurd R4 hr
    · exact absurd R5 hr
    · exact absurd R6 hr
    · exact absurd R7 hr
    · exact ⟨R8, rfl⟩
  · intro j hj
    unfold Blk
    rw [hm, ha]
    simp only [true_iff]
    omega
  · rw [hm, ha]
    constructor
    · intro h; cases h
    · rintro (⟨_, h⟩ | ⟨_, h⟩) <;> exact absurd h (Int.lt_irrefl _)
theorem bool_ne {a b : Bool} (h : ¬ a = b) : a = !b := by cases a <;> cases b <;> simp_all
theorem says_all {n a : Int} (h0 : 0 ≤ a) (h1 : a < 256) : Says (rulesOf n (nameOf (n.fmod 256))) (nameOf a) n a := by
  obtain ⟨wb, hw⟩ := way_of n
  obtain ⟨b7, b6, b5, b4, b3, b2, b1, b0, hm⟩ := bits_of (n.fmod 256) (Int.fmod_nonneg_of_pos _ (by decide)) (Int.fmod_lt_of_pos _ (by decide))
  obtain ⟨a7, a6, a5, a4, a3, a2, a1, a0, ha⟩ := bits_of a h0 h1
  rw [hm, show nameOf a = nm8 a7 a6 a5 a4 a3 a2 a1 a0 from by rw [ha, name_of], name_of]
  by_cases e0 : a7 = b7
  case neg => (rw [bool_ne e0] at ha ⊢; exact says0 hw b7 b6 b5 b4 b3 b2 b1 b0 a6 a5 a4 a3 a2 a1 a0 hm ha)
  subst e0
  by_cases e1 : a6 = b6
  case neg => (rw [bool_ne e1] at ha ⊢; exact says1 hw a7 b6 b5 b4 b3 b2 b1 b0 a5 a4 a3 a2 a1 a0 hm ha)
  subst e1
  by_cases e2 : a5 = b5
  case neg => (rw [bool_ne e2] at ha ⊢; exact says2 hw a7 a6 b5 b4 b3 b2 b1 b0 a4 a3 a2 a1 a0 hm ha)
  subst e2
  by_cases e3 : a4 = b4
  case neg => (rw [bool_ne e3] at ha ⊢; exact says3 hw a7 a6 a5 b4 b3 b2 b1 b0 a3 a2 a1 a0 hm ha)
  subst e3
  by_cases e4 : a3 = b3
  case neg => (rw [bool_ne e4] at ha ⊢; exact says4 hw a7 a6 a5 a4 b3 b2 b1 b0 a2 a1 a0 hm ha)
  subst e4
  by_cases e5 : a2 = b2
  case neg => (rw [bool_ne e5] at ha ⊢; exact says5 hw a7 a6 a5 a4 a3 b2 b1 b0 a1 a0 hm ha)
  subst e5
  by_cases e6 : a1 = b1
  case neg => (rw [bool_ne e6] at ha ⊢; exact says6 hw a7 a6 a5 a4 a3 a2 b1 b0 a0 hm ha)
  subst e6
  by_cases e7 : a0 = b0
  case neg => (rw [bool_ne e7] at ha ⊢; exact says7 hw a7 a6 a5 a4 a3 a2 a1 b0  hm ha)
  subst e7
  exact says8 hw a7 a6 a5 a4 a3 a2 a1 a0 hm ha
theorem law_plain {n1 n2 n3 n4 n5 a : Int} {r : Bool} (h0 : 0 ≤ a) (h1 : a < 256) (hd : DueIs [n1, n2, n3, n4] a r) : askRules (nameOf a) (mergedRules (rulesOf n1 (nameOf (n1.fmod 256))) (rulesOf n2 (nameOf (n2.fmod 256))) (rulesOf n3 (nameOf (n3.fmod 256))) (rulesOf n4 (nameOf (n4.fmod 256))) ((n5.fdiv 256).fmod 2)) = r := by
  refine ask_says (rs := fun n => rulesOf n (nameOf (n.fmod 256))) ?_ (fun n _ => says_all h0 h1) (fun n _ => ?_) hd
  · intro q
    unfold mergedRules
    simp only [List.mem_cons, List.not_mem_nil, or_false, exists_eq_or_imp, exists_eq_left]
    split
    · simp only [List.mem_append]
      exact ⟨fun h => by rcases h with (h | h) | (h | h) <;> simp [h], fun h => by rcases h with h | h | h | h <;> simp [h]⟩
    · simp only [List.mem_append]
      exact ⟨fun h => by rcases h with (h | (h | h)) | h <;> simp [h], fun h => by rcases h with h | h | h | h <;> simp [h]⟩
  · exact blk8 h0 h1
theorem one_len {n m : Int} (h0 : 0 ≤ m) (h1 : m < 256) : ∀ q ∈ rulesOf n (nameOf m), q.1.length ≤ 100 := by
  obtain ⟨wb, hw⟩ := way_of n
  obtain ⟨b7, b6, b5, b4, b3, b2, b1, b0, hm⟩ := bits_of m h0 h1
  rw [hm, name_of, rules_list hw]
  intro q hq
  simp only [List.mem_cons, List.not_mem_nil, or_false] at hq
  rcases hq with rfl | rfl | rfl | rfl | rfl | rfl | rfl | rfl | rfl <;> simp [Str.length, nm8]
theorem rules_len {n1 n2 n3 n4 n5 : Int} : ∀ q ∈ mergedRules (rulesOf n1 (nameOf (n1.fmod 256))) (rulesOf n2 (nameOf (n2.fmod 256))) (rulesOf n3 (nameOf (n3.fmod 256))) (rulesOf n4 (nameOf (n4.fmod 256))) ((n5.fdiv 256).fmod 2), q.1.length ≤ 100 := by
  have one : ∀ n, ∀ q ∈ rulesOf n (nameOf (n.fmod 256)), q.1.length ≤ 100 := fun n => one_len (Int.fmod_nonneg_of_pos _ (by decide)) (Int.fmod_lt_of_pos _ (by decide))
  intro q hq
  unfold mergedRules at hq
  split at hq
  · rcases List.mem_append.mp hq with h | h <;> rcases List.mem_append.mp h with h | h <;> exact one _ q h
  · rcases List.mem_append.mp hq with h | h
    · rcases List.mem_append.mp h with h | h
      · exact one _ q h
      · rcases List.mem_append.mp h with h | h <;> exact one _ q h
    · exact one _ q h
end Mine
end
section
open PySem PySem.W PyProof.Rows PySem.Calls
set_option maxRecDepth 100000
set_option maxHeartbeats 8000000
namespace Mine

section
open LCg
variable {prog : Program} {w : World} {A : Around} {s : Shared} {h₀ : Heap} {L : Addr} {m : Str → Option Value} {env : Env}
theorem compU_ind {elt : PySem.Expr} {x : Str} {scope : Scope} {cl : List (Str × Addr)} {S : List (Addr × Obj) → Prop} {P : Nat → Value → Prop} {Fin : List Value → List (Addr × Obj) → Prop} {n : Nat} (J : Nat → List Value → Led → Prop)
    (turn : ∀ i ys news, i < n → J i ys news → ∀ v I oI C oC D m₂ h tk (E' : Value → Shared → Prop), P i v → NsObj oC m₂ → m₂ x = some v → Fr h₀ L h m → News h₀ L h ((I, oI) :: (C, oC) :: (D, lst ys) :: news) → Off3 I C D news → ((@Ne Nat I C) ∧ (@Ne Nat I D) ∧ (@Ne Nat C D)) →
        wpAny (model prog w) A (eval elt (compEnvC scope cl C env)) (CompEnd h₀ L m { s with heap := h, toks := tk } I oI C oC D (lst ys) S (fun y news' => J (i + 1) (ys ++ [y]) news')) E' { s with heap := h, toks := tk })
    (done : ∀ ys news, J n ys news → Fin ys news) :
    ∀ k i ys news, i + k = n → J i ys news → CompRest prog w A h₀ L m env elt x scope cl s S P Fin k i ys news
  | 0, i, ys, news, e, hj => done ys news (by rwa [← e])
  | k + 1, i, ys, news, e, hj => fun v I oI C oC D m₂ h tk E' hv hC hx F N off ne => by
    refine wpAny_mono (turn i ys news (by omega) hj v I oI C oC D m₂ h tk E' hv hC hx F N off ne) (fun y s₂ z => ?_) fun _ _ z => z
    obtain ⟨h', tk', news', e1, F', N', o', S', r⟩ := z
    exact ⟨h', tk', news', e1, F', N', o', S', compU_ind J turn done k (i + 1) _ _ (by omega) r⟩
end
def EntsIn (w : World) (led : Led) : List Value → List Int → Prop
  | [], [] => True
  | .ref e :: r, n :: ns => EntryIn w led e (rulesOf n (nameOf (n.fmod 256))) ∧ EntsIn w led r ns
  | _, _ => False
theorem EntsIn.mono {w : World} {a b : Led} (h : ∀ p ∈ a, p ∈ b) : ∀ {vs : List Value} {ns : List Int}, EntsIn w a vs ns → EntsIn w b vs ns
  | [], [], _ => trivial
  | .ref _ :: _, _ :: _, x => ⟨x.1.mono h, EntsIn.mono h x.2⟩
theorem EntsIn.snoc {w : World} {a : Led} {e : Addr} {n : Int} (y : EntryIn w a e (rulesOf n (nameOf (n.fmod 256)))) : ∀ {vs : List Value} {ns : List Int}, EntsIn w a vs ns → EntsIn w a (vs ++ [.ref e]) (ns ++ [n])
  | [], [], _ => ⟨y, trivial⟩
  | .ref _ :: _, _ :: _, x => ⟨x.1, EntsIn.snoc y x.2⟩
theorem EntsIn.cons_inv {w : World} {led : Led} {vs : List Value} {n : Int} {ns : List Int} (h : EntsIn w led vs (n :: ns)) : ∃ e r, vs = .ref e :: r ∧ EntryIn w led e (rulesOf n (nameOf (n.fmod 256))) ∧ EntsIn w led r ns := by
  cases vs with
  | nil => exact h.elim
  | cons v r =>
    cases v with
    | ref e => exact ⟨e, r, rfl, h.1, h.2⟩
    | _ => exact h.elim
def lm (u : Option Value) (dq da xm ln ls : Addr) : Str → Option Value := fun y => if y = Str.ofString "one" then u else if y = Str.ofString "asked" then some (.ref dq) else if y = Str.ofString "marks" then some (.ref da) else if y = Str.ofString "merged" then some (.ref xm) else if y = Str.ofString "numbers" then some (.ref ln) else List.lookup y [(Str.ofString "script", .ref ls)]
theorem lm_norm {M : Str → Option Value} {dq da xm ln ls : Addr} (h : ∀ y, y ≠ Str.ofString "one" → M y = if y = Str.ofString "asked" then some (.ref dq) else if y = Str.ofString "marks" then some (.ref da) else if y = Str.ofString "merged" then some (.ref xm) else if y = Str.ofString "numbers" then some (.ref ln) else List.lookup y [(Str.ofString "script", .ref ls)]) : M = lm (M (Str.ofString "one")) dq da xm ln ls := by
  funext y
  unfold lm
  by_cases e1 : y = Str.ofString "one"
  · rw [if_pos e1, e1]
  · rw [if_neg e1, h y e1]
local macro_rules | `(tactic| k_mem) => `(tactic| assumption)
theorem law_holds : PySem.Challenge.rw_ny0467_01.Holds := by
  k_with_none
  w_top off
  k_with "pyIter ref" => k_state (fun pre numbers => numbers.length = 5) "numbers"
  refine hd ?_
  k_go0
  rename_i wW s0 s1 mg mb _ _ _ _ _ _ _ _ _ _ _ _ _ _ _ _ _ _ _ _ _ _ _ _ _ _ _ _ _ _ _ _ _ _ _ _ _ _ _ _ _ _ _ _ 
  try k_fold
  repeat' ((fail_if_success (with_reducible show wpAny _ _ (PySem.eval (Expr.ListComp _ _ _ _) _) _ _ _)); first | (k_unfold; (try dsimp only)) | (k_end; wrow_close) | walk1 | (dsimp only; walk1) | (leave1; walk_say "STEP leave1"; try dsimp only) | fail "no step")
  rename_i vsN nsN cN kB kL0 Tc kX hq Fq Nq
  obtain ⟨n1, n2, n3, n4, n5, rfl⟩ : ∃ a b c d e, nsN = [a, b, c, d, e] := by
    match nsN, kInv with
    | [a, b, c, d, e], _ => exact ⟨a, b, c, d, e, rfl⟩
  have hIN := kFacts
  clear kNews kFr kMark kLen kL0 kB kInv kFacts
  obtain ⟨lN, lS, Fq2, Nq2⟩ : ∃ lN lS, Fr (ghostOf s1.heap [(83, 79)]) s1.heap.objs.size hq (fun y => if y = Str.ofString "numbers" then some (.ref lN) else List.lookup y [(Str.ofString "script", .ref lS)]) ∧ News (ghostOf s1.heap [(83, 79)]) s1.heap.objs.size hq [(lN, listOf (List.toArray vsN) cN), (79, tabObj #[])] := ⟨_, _, Fq, Nq⟩
  clear Fq Nq
  k_dflt (refine LCg.ListComp_U (F₀ := by k_asm) (by with_unfolding_all rfl) (by decide) (by rfl) (by decide) (by rfl) ?_)
  repeat' ( (fail_if_success (with_reducible show LCg.CompSrc _ _ _ _ _ _ _ _ _ _ _ _ _ _)); first | (k_unfold; (try dsimp only)) | (k_end; wrow_close) | walk1 | (dsimp only; walk1) | (leave1; walk_say "STEP leave1"; try dsimp only) | fail "no step")
  rename_i D4 ws4 h4 F4 N4 hI4 hC4 hL4 l4
  clear hC4 hL4
  have N4' : News (ghostOf s1.heap [(83, 79)]) s1.heap.objs.size h4 ((79, tabObj #[]) :: ([] ++ [(D4, listOf (List.toArray ws4) 0), (lN, listOf (List.toArray vsN) cN)])) := fun q hq => N4 q (by
    simp only [List.mem_cons, List.nil_append, or_assoc, or_comm, or_left_comm] at hq ⊢; exact hq)
  have hnum : ws4.toArray.size = 4 := by rw [List.size_toArray, hI4.length]; rfl
  k_dflt (refine LCg.CompSrc.ledger (its := List.toArray ws4) (k := 0) rfl F4 N4' (.tail _ (.head _)) ?hz ?_)
  case hz => (rw [hnum, sizeLine_eq]; decide)
  intro gC
  refine compU_ind (fun i ys led => ∃ ps ex, (79, tabObj ps) :: (ex ++ [(D4, listOf (List.toArray ws4) 0), (lN, listOf (List.toArray vsN) cN)]) = led ∧ TabInv ps ex ∧ (∀ q ∈ ex, 79 < q.1) ∧ EntsIn wW ex ys ([n1, n2, n3, n4].take i)) ?_ ?_ _ 0 [] _ (Nat.zero_add _) ⟨#[], [], rfl, tabInv_nil, (fun _ h => nomatch h), trivial⟩
  · rintro i ys led hi ⟨ps, ex, rfl, hTI, hex, hEn⟩ vv Ic oIc Cc oCc Dc m2 hc tkc E' hv hCc hxc Fc Nc offc nec
    have hi4 : i < 4 := by rw [← hnum]; exact hi
    obtain ⟨xn, hxn⟩ : ∃ xn, [n1, n2, n3, n4][i]? = some xn := ⟨_, List.getElem?_eq_getElem (by simpa using hi4)⟩
    obtain ⟨tn, htn⟩ := hI4.get i xn hxn
    have hvv : vv = .int xn tn := by
      have z : ws4[i]? = some vv := by simpa using hv
      rw [htn] at z; exact (Option.some.inj z).symm
    subst hvv
    have etk : [n1, n2, n3, n4].take (i + 1) = [n1, n2, n3, n4].take i ++ [xn] := by rw [List.take_add_one, hxn]; rfl
    repeat' ((fail_if_success (with_reducible show wpAny _ _ (PySem.call (Value.ref 91) _) _ _ _)); first | (k_unfold; (try dsimp only)) | (k_end; wrow_close) | walk1 | (dsimp only; walk1) | (leave1; walk_say "STEP leave1"; try dsimp only) | fail "no step")
    have N5 : News (ghostOf s1.heap [(83, 79)]) s1.heap.objs.size hc ((79, tabObj ps) :: (Ic, oIc) :: (Cc, oCc) :: (Dc, LCg.lst ys) :: (ex ++ [(D4, listOf (List.toArray ws4) 0), (lN, listOf (List.toArray vsN) cN)])) := fun q hq => Nc q (by
      simp only [List.mem_cons, List.mem_append, or_assoc, or_comm, or_left_comm] at hq ⊢; exact hq)
    have hlN : lN ≠ 79 := fun e => by
      have a1 := (Nc (lN, listOf (List.toArray vsN) cN) (by simp)).1
      have b1 := (Nc (79, tabObj ps) (by simp)).1
      rw [e] at a1
      rw [show hc.get? (79, tabObj ps).1 = hc.get? 79 from rfl] at b1
      rw [show hc.get? ((79 : Addr), listOf (List.toArray vsN) cN).1 = hc.get? 79 from rfl, b1] at a1
      cases a1
    have Z5 : ∀ q ∈ ((Ic, oIc) :: (Cc, oCc) :: (Dc, LCg.lst ys) :: (ex ++ [(D4, listOf (List.toArray ws4) 0), (lN, listOf (List.toArray vsN) cN)])), q.1 ≠ 79 := fun q hq => by
      rcases List.mem_cons.mp hq with rfl | hq
      · exact Ne.symm offc.1.1
      rcases List.mem_cons.mp hq with rfl | hq
      · exact Ne.symm offc.1.2.1
      rcases List.mem_cons.mp hq with rfl | hq
      · exact Ne.symm offc.1.2.2
      rcases List.mem_append.mp hq with hq | hq
      · exact Nat.ne_of_gt (hex q hq)
      rcases List.mem_cons.mp hq with rfl | hq
      · exact Nat.ne_of_gt l4.2
      rw [List.mem_singleton.mp hq]; exact hlN
    clear Nc
    k_dflt (refine' record_spec ?k1 ?k2 ?k3 ?k4 ?k5 N5 Z5 hTI ?k7 ?k8 _ rfl (name_len _) ?_; (case k1 => k_asm); (case k2 => k_asm); (case k3 => k_asm); (case k4 => k_asm); (case k5 => exact rfl); (case k7 => ktr_room); (case k8 => ktr_units))
    intro x2 ps2 ex2 h2 tk2 F2 N2 o2 I2 E2
    k_steps
    refine LCg.CompEnd.intro F2 N2 ((79, tabObj ps2) :: ((ex2 ++ ex) ++ [(D4, listOf (List.toArray ws4) 0), (lN, listOf (List.toArray vsN) cN)])) ?_ ?_ (.inr ⟨listOf (List.toArray ws4) 0, by simp, rfl, 0, rfl⟩) ⟨ps2, ex2 ++ ex, rfl, I2, ?_, ?_⟩
    · intro q hq
      simp only [List.mem_cons, List.mem_append, or_assoc, or_comm, or_left_comm] at hq ⊢; exact hq
    · refine LCg.Off3.of fun q hq => ?_
      have off0 := offc.mem
      rcases List.mem_cons.mp hq with rfl | hq
      · exact off0 (79, tabObj ps) (.head _)
      rcases List.mem_append.mp hq with hq | hq
      · rcases List.mem_append.mp hq with hq | hq
        · exact ⟨Nat.ne_of_gt (o2 q hq (Ic, oIc) (by simp)), Nat.ne_of_gt (o2 q hq (Cc, oCc) (by simp)), Nat.ne_of_gt (o2 q hq (Dc, LCg.lst ys) (by simp))⟩
        · exact off0 q (by simp [hq])
      · exact off0 q (.tail _ (List.mem_append_right _ hq))
    · intro q hq
      rcases List.mem_append.mp hq with hq | hq
      · exact o2 q hq (79, tabObj ps) (.head _)
      · exact hex q hq
    · rw [etk]
      exact EntsIn.snoc E2 (hEn.mono fun q hq => List.mem_append_right _ hq)
  · rintro ys led ⟨ps, ex, rfl, hTI, hex, hEn⟩ D hD tkD FD ND offD
    rw [hnum, List.take_of_length_le (Nat.le_refl 4)] at hEn
    obtain ⟨e1, r1, rfl, Y1, hEn⟩ := hEn.cons_inv
    obtain ⟨e2, r2, rfl, Y2, hEn⟩ := hEn.cons_inv
    obtain ⟨e3, r3, rfl, Y3, hEn⟩ := hEn.cons_inv
    obtain ⟨e4, r4, rfl, Y4, hEn⟩ := hEn.cons_inv
    obtain rfl : r4 = [] := by cases r4 with | nil => rfl | cons v r => cases v <;> exact hEn.elim
    repeat' ((fail_if_success (with_reducible show wpAny _ _ (PySem.call (Value.ref 98) _) _ _ _)); (fail_if_success (with_reducible show wpAny _ _ (PySem.eval (Expr.ListComp _ _ _ _) _) _ _ _)); (fail_if_success (with_reducible show wpAny _ _ (PySem.exec (Stmt.Assign _ (Expr.ListComp _ _ _ _) _) _) _ _ _)); (fail_if_success (with_reducible show wpAny _ _ (subscriptTail _ _ _ _) _ _ _)); (fail_if_success (with_reducible show LCg.CompSrc _ _ _ _ _ _ _ _ _ _ _ _ _ _)); first | (k_unfold; (try dsimp only)) | (k_end; wrow_close) | walk1 | (dsimp only; walk1) | (leave1; walk_say "STEP leave1"; try dsimp only) | fail "no step")
    obtain ⟨t5, ht5⟩ := hIN.get 4 n5 rfl
    k_dflt (refine' item_litK (vs := vsN) ⟨_, (ND (lN, listOf (List.toArray vsN) cN) (by simp)).1, rfl, cN, rfl⟩ (by decide) (by decide) ht5 ?_ (by with_unfolding_all rfl))
    repeat' ((fail_if_success (with_reducible show wpAny _ _ (PySem.call (Value.ref 98) _) _ _ _)); (fail_if_success (with_reducible show wpAny _ _ (PySem.eval (Expr.ListComp _ _ _ _) _) _ _ _)); (fail_if_success (with_reducible show wpAny _ _ (PySem.exec (Stmt.Assign _ (Expr.ListComp _ _ _ _) _) _) _ _ _)); (fail_if_success (with_reducible show wpAny _ _ (subscriptTail _ _ _ _) _ _ _)); (fail_if_success (with_reducible show LCg.CompSrc _ _ _ _ _ _ _ _ _ _ _ _ _ _)); first | (k_unfold; (try dsimp only)) | (k_end; wrow_close) | walk1 | (dsimp only; walk1) | (leave1; walk_say "STEP leave1"; try dsimp only) | fail "no step")
    have up : ∀ q ∈ ex, q ∈ (79, tabObj ps) :: (ex ++ [(D4, listOf (List.toArray ws4) 0), (lN, listOf (List.toArray vsN) cN)]) := fun q hq => .tail _ (List.mem_append_left _ hq)
    have rl : ∀ n, (rulesOf n (nameOf (n.fmod 256))).length = 9 := fun n => rfl
    k_dflt (refine' merged_spec ?k1 ?k2 ?k3 ?k4 ?k5 ?k6 (Y1.mono up) (Y2.mono up) (Y3.mono up) (Y4.mono up) ?k7 ?k8 ?k9 ?_; (case k1 => k_asm); (case k2 => k_asm); (case k3 => k_asm); (case k4 => k_asm); (case k5 => exact rfl); (case k6 => exact ND); (case k7 => ktr_room); (case k8 => ktr_units); (case k9 => (rw [rl, rl, rl, rl]; decide)))
    intro xM exM hM tkM FM NM oM EM
    have hlM : (lN, listOf (List.toArray vsN) cN) ∈ exM ++ (D, LCg.lst [Value.ref e1, Value.ref e2, Value.ref e3, Value.ref e4]) :: (79, tabObj ps) :: (ex ++ [(D4, listOf (List.toArray ws4) 0), (lN, listOf (List.toArray vsN) cN)]) := by simp
    have hTM : (79, tabObj ps) ∈ exM ++ (D, LCg.lst [Value.ref e1, Value.ref e2, Value.ref e3, Value.ref e4]) :: (79, tabObj ps) :: (ex ++ [(D4, listOf (List.toArray ws4) 0), (lN, listOf (List.toArray vsN) cN)]) := by simp
    generalize hLM : exM ++ (D, LCg.lst [Value.ref e1, Value.ref e2, Value.ref e3, Value.ref e4]) :: (79, tabObj ps) :: (ex ++ [(D4, listOf (List.toArray ws4) 0), (lN, listOf (List.toArray vsN) cN)]) = ledM at NM EM hlM hTM
    clear hLM oM up Y1 Y2 Y3 Y4 ND offD FD hEn hTI hex
    repeat' ((fail_if_success (with_reducible show wpAny _ _ (PySem.eval (Expr.ListComp _ _ _ _) _) _ _ _)); (fail_if_success (with_reducible show wpAny _ _ (PySem.exec (Stmt.Assign _ (Expr.ListComp _ _ _ _) _) _) _ _ _)); (fail_if_success (with_reducible show wpAny _ _ (subscriptTail _ _ _ _) _ _ _)); (fail_if_success (with_reducible show LCg.CompSrc _ _ _ _ _ _ _ _ _ _ _ _ _ _)); first | (k_unfold; (try dsimp only)) | (k_end; wrow_close) | walk1 | (dsimp only; walk1) | (leave1; walk_say "STEP leave1"; try dsimp only) | fail "no step")
    k_dflt (refine LCg.Assign_ListComp_U (F₀ := by k_asm) (by rfl) (by with_unfolding_all rfl) (by with_unfolding_all rfl) (by decide) (by rfl) (by decide) (by rfl) (by rfl) (by rfl) ?_)
    repeat' ( (fail_if_success (with_reducible show LCg.CompSrc _ _ _ _ _ _ _ _ _ _ _ _ _ _)); first | (k_unfold; (try dsimp only)) | (k_end; wrow_close) | walk1 | (dsimp only; walk1) | (leave1; walk_say "STEP leave1"; try dsimp only) | fail "no step")
    have FK_A := ‹Fr (ghostOf s1.heap [(83, 79)]) s1.heap.objs.size _ _›
    have NK_A := ‹News (ghostOf s1.heap [(83, 79)]) s1.heap.objs.size _ ledM›
    have sz_A : (List.toArray vsN).size = 5 := by rw [List.size_toArray, IntsAre.length hIN]; rfl
    k_dflt (refine LCg.CompSrc.ledger (its := List.toArray vsN) (k := cN) rfl FK_A NK_A hlM ?hz ?_)
    case hz => (rw [sz_A, sizeLine_eq]; decide)
    intro gC
    refine compU_ind (fun i ys led => ledM = led ∧ IntsAre ys (([n1, n2, n3, n4, n5].take i).map (fun x => Int.fmod x 256))) ?_ ?_ _ 0 [] _ (Nat.zero_add _) ⟨rfl, .nil⟩
    · rintro i ys led hi ⟨rfl, hys⟩ vv Ic oIc Cc oCc Dc m2 hc tkc E' hv hCc hxc Fc Nc offc nec
      have hi4 : i < 5 := by rw [← sz_A]; exact hi
      obtain ⟨xn, hxn⟩ : ∃ xn, [n1, n2, n3, n4, n5][i]? = some xn := ⟨_, List.getElem?_eq_getElem (by simpa using hi4)⟩
      obtain ⟨tn, htn⟩ := IntsAre.get hIN i xn hxn
      have hvv : vv = .int xn tn := by
        have z : vsN[i]? = some vv := by simpa using hv
        rw [htn] at z; exact (Option.some.inj z).symm
      subst hvv
      have etk : ([n1, n2, n3, n4, n5].take (i + 1)).map (fun x => Int.fmod x 256) = ([n1, n2, n3, n4, n5].take i).map (fun x => Int.fmod x 256) ++ [(fun x => Int.fmod x 256) xn] := by rw [List.take_add_one, hxn]; simp
      k_steps
      refine LCg.CompEnd.intro Fc Nc ledM (fun p hp => hp) offc (.inr ⟨listOf (List.toArray vsN) cN, hlM, rfl, cN, rfl⟩) ⟨rfl, ?_⟩
      rw [etk]
      exact hys.append (.cons _ _ .nil)
    · rintro ys_A led ⟨rfl, hI_A⟩ D_A h_A tk_A F_A N_A o_A
      rw [sz_A, List.take_of_length_le (Nat.le_refl 5)] at hI_A
      skip
      repeat' ((fail_if_success (with_reducible show wpAny _ _ (PySem.eval (Expr.ListComp _ _ _ _) _) _ _ _)); (fail_if_success (with_reducible show wpAny _ _ (PySem.exec (Stmt.Assign _ (Expr.ListComp _ _ _ _) _) _) _ _ _)); (fail_if_success (with_reducible show wpAny _ _ (subscriptTail _ _ _ _) _ _ _)); (fail_if_success (with_reducible show wpAny _ _ (PySem.binaryOp Operator.Add _ _) _ _ _)); (fail_if_success (with_reducible show LCg.CompSrc _ _ _ _ _ _ _ _ _ _ _ _ _ _)); first | (k_unfold; (try dsimp only)) | (k_end; wrow_close) | walk1 | (dsimp only; walk1) | (leave1; walk_say "STEP leave1"; try dsimp only) | fail "no step")
      have hA5 : IntsAre ys_A [n1.fmod 256, n2.fmod 256, n3.fmod 256, n4.fmod 256, n5.fmod 256] := hI_A
      k_dflt (refine LCg.ListComp_U (F₀ := by k_asm) (by with_unfolding_all rfl) (by decide) (by rfl) (by decide) (by rfl) ?_)
      repeat' ( (fail_if_success (with_reducible show LCg.CompSrc _ _ _ _ _ _ _ _ _ _ _ _ _ _)); first | (k_unfold; (try dsimp only)) | (k_end; wrow_close) | walk1 | (dsimp only; walk1) | (leave1; walk_say "STEP leave1"; try dsimp only) | fail "no step")
      rename_i D_s ws_s h_s F_s N_s hI_s hC_s hL_s l_s
      have hI_t : IntsAre ws_s [n1.fmod 256, n2.fmod 256, n3.fmod 256, n4.fmod 256] := hI_s
      clear hC_s hL_s hI_s
      have FK_B := ‹Fr (ghostOf s1.heap [(83, 79)]) s1.heap.objs.size _ _›
      have NK_B := ‹News (ghostOf s1.heap [(83, 79)]) s1.heap.objs.size _ ((D_s, listOf (List.toArray ws_s) 0) :: (D_A, LCg.lst ys_A) :: ledM)›
      have sz_B : (List.toArray ws_s).size = 4 := by rw [List.size_toArray, IntsAre.length hI_t]; rfl
      k_dflt (refine LCg.CompSrc.ledger (its := List.toArray ws_s) (k := 0) rfl FK_B NK_B (.head _) ?hz ?_)
      case hz => (rw [sz_B, sizeLine_eq]; decide)
      intro gC
      refine compU_ind (fun i ys led => ((D_s, listOf (List.toArray ws_s) 0) :: (D_A, LCg.lst ys_A) :: ledM) = led ∧ IntsAre ys (([n1.fmod 256, n2.fmod 256, n3.fmod 256, n4.fmod 256].take i).map (fun x => Int.fmod (x - 1) 256))) ?_ ?_ _ 0 [] _ (Nat.zero_add _) ⟨rfl, .nil⟩
      · rintro i ys led hi ⟨rfl, hys⟩ vv Ic oIc Cc oCc Dc m2 hc tkc E' hv hCc hxc Fc Nc offc nec
        have hi4 : i < 4 := by rw [← sz_B]; exact hi
        obtain ⟨xn, hxn⟩ : ∃ xn, [n1.fmod 256, n2.fmod 256, n3.fmod 256, n4.fmod 256][i]? = some xn := ⟨_, List.getElem?_eq_getElem (by simpa using hi4)⟩
        obtain ⟨tn, htn⟩ := IntsAre.get hI_t i xn hxn
        have hvv : vv = .int xn tn := by
          have z : ws_s[i]? = some vv := by simpa using hv
          rw [htn] at z; exact (Option.some.inj z).symm
        subst hvv
        have etk : ([n1.fmod 256, n2.fmod 256, n3.fmod 256, n4.fmod 256].take (i + 1)).map (fun x => Int.fmod (x - 1) 256) = ([n1.fmod 256, n2.fmod 256, n3.fmod 256, n4.fmod 256].take i).map (fun x => Int.fmod (x - 1) 256) ++ [(fun x => Int.fmod (x - 1) 256) xn] := by rw [List.take_add_one, hxn]; simp
        k_steps
        refine LCg.CompEnd.intro Fc Nc ((D_s, listOf (List.toArray ws_s) 0) :: (D_A, LCg.lst ys_A) :: ledM) (fun p hp => hp) offc (.inr ⟨listOf (List.toArray ws_s) 0, (.head _), rfl, 0, rfl⟩) ⟨rfl, ?_⟩
        rw [etk]
        exact hys.append (.cons _ _ .nil)
      · rintro ys_B led ⟨rfl, hI_B⟩ D_B h_B tk_B F_B N_B o_B
        rw [sz_B, List.take_of_length_le (Nat.le_refl 4)] at hI_B
        skip
        repeat' ((fail_if_success (with_reducible show wpAny _ _ (PySem.eval (Expr.ListComp _ _ _ _) _) _ _ _)); (fail_if_success (with_reducible show wpAny _ _ (PySem.exec (Stmt.Assign _ (Expr.ListComp _ _ _ _) _) _) _ _ _)); (fail_if_success (with_reducible show LCg.CompSrc _ _ _ _ _ _ _ _ _ _ _ _ _ _)); first | (k_unfold; (try dsimp only)) | (k_end; wrow_close) | walk1 | (dsimp only; walk1) | (leave1; walk_say "STEP leave1"; try dsimp only) | fail "no step")
        rename_i D_p ws_p h_p F_p N_p hI_p l_p
        k_dflt (refine LCg.ListComp_U (F₀ := by k_asm) (by with_unfolding_all rfl) (by decide) (by rfl) (by decide) (by rfl) ?_)
        repeat' ( (fail_if_success (with_reducible show LCg.CompSrc _ _ _ _ _ _ _ _ _ _ _ _ _ _)); first | (k_unfold; (try dsimp only)) | (k_end; wrow_close) | walk1 | (dsimp only; walk1) | (leave1; walk_say "STEP leave1"; try dsimp only) | fail "no step")
        rename_i D_r ws_r h_r F_r N_r hI_r hC_r hL_r l_r
        have hI_u : IntsAre ws_r [n1.fmod 256, n2.fmod 256, n3.fmod 256, n4.fmod 256] := hI_r
        clear hC_r hL_r hI_r
        have FK_C := ‹Fr (ghostOf s1.heap [(83, 79)]) s1.heap.objs.size _ _›
        have NK_C := ‹News (ghostOf s1.heap [(83, 79)]) s1.heap.objs.size _ ((D_r, listOf (List.toArray ws_r) 0) :: (D_p, listOf (List.toArray ws_p) 0) :: (D_B, LCg.lst ys_B) :: (D_s, listOf (List.toArray ws_s) 0) :: (D_A, LCg.lst ys_A) :: ledM)›
        have sz_C : (List.toArray ws_r).size = 4 := by rw [List.size_toArray, IntsAre.length hI_u]; rfl
        k_dflt (refine LCg.CompSrc.ledger (its := List.toArray ws_r) (k := 0) rfl FK_C NK_C (.head _) ?hz ?_)
        case hz => (rw [sz_C, sizeLine_eq]; decide)
        intro gC
        refine compU_ind (fun i ys led => ((D_r, listOf (List.toArray ws_r) 0) :: (D_p, listOf (List.toArray ws_p) 0) :: (D_B, LCg.lst ys_B) :: (D_s, listOf (List.toArray ws_s) 0) :: (D_A, LCg.lst ys_A) :: ledM) = led ∧ IntsAre ys (([n1.fmod 256, n2.fmod 256, n3.fmod 256, n4.fmod 256].take i).map (fun x => Int.fmod (x + 1) 256))) ?_ ?_ _ 0 [] _ (Nat.zero_add _) ⟨rfl, .nil⟩
        · rintro i ys led hi ⟨rfl, hys⟩ vv Ic oIc Cc oCc Dc m2 hc tkc E' hv hCc hxc Fc Nc offc nec
          have hi4 : i < 4 := by rw [← sz_C]; exact hi
          obtain ⟨xn, hxn⟩ : ∃ xn, [n1.fmod 256, n2.fmod 256, n3.fmod 256, n4.fmod 256][i]? = some xn := ⟨_, List.getElem?_eq_getElem (by simpa using hi4)⟩
          obtain ⟨tn, htn⟩ := IntsAre.get hI_u i xn hxn
          have hvv : vv = .int xn tn := by
            have z : ws_r[i]? = some vv := by simpa using hv
            rw [htn] at z; exact (Option.some.inj z).symm
          subst hvv
          have etk : ([n1.fmod 256, n2.fmod 256, n3.fmod 256, n4.fmod 256].take (i + 1)).map (fun x => Int.fmod (x + 1) 256) = ([n1.fmod 256, n2.fmod 256, n3.fmod 256, n4.fmod 256].take i).map (fun x => Int.fmod (x + 1) 256) ++ [(fun x => Int.fmod (x + 1) 256) xn] := by rw [List.take_add_one, hxn]; simp
          k_steps
          refine LCg.CompEnd.intro Fc Nc ((D_r, listOf (List.toArray ws_r) 0) :: (D_p, listOf (List.toArray ws_p) 0) :: (D_B, LCg.lst ys_B) :: (D_s, listOf (List.toArray ws_s) 0) :: (D_A, LCg.lst ys_A) :: ledM) (fun p hp => hp) offc (.inr ⟨listOf (List.toArray ws_r) 0, (.head _), rfl, 0, rfl⟩) ⟨rfl, ?_⟩
          rw [etk]
          exact hys.append (.cons _ _ .nil)
        · rintro ys_C led ⟨rfl, hI_C⟩ D_C h_C tk_C F_C N_C o_C
          rw [sz_C, List.take_of_length_le (Nat.le_refl 4)] at hI_C
          skip
          repeat' ((fail_if_success (with_reducible show wpAny _ _ (PySem.exec (Stmt.For _ _ _ _ _) _) _ _ _)); (fail_if_success (with_reducible show LCg.CompSrc _ _ _ _ _ _ _ _ _ _ _ _ _ _)); first | (k_unfold; (try dsimp only)) | (k_end; wrow_close) | walk1 | (dsimp only; walk1) | (leave1; walk_say "STEP leave1"; try dsimp only) | fail "no step")
          rename_i D_q ws_q h_q hI_q l_q h_w F_w N_w
          have up9 : ∀ q ∈ ledM, q ∈ (D_C, LCg.lst ys_C) :: (D_r, listOf (List.toArray ws_r) 0) :: (D_p, listOf (List.toArray ws_p) 0) :: (D_B, LCg.lst ys_B) :: (D_s, listOf (List.toArray ws_s) 0) :: (D_A, LCg.lst ys_A) :: ledM := fun q hq => .tail _ (.tail _ (.tail _ (.tail _ (.tail _ (.tail _ hq)))))
          have EQ := EM.mono up9
          have hlQ := up9 _ hlM
          have hTQ := up9 _ hTM
          generalize hLQ : (D_C, LCg.lst ys_C) :: (D_r, listOf (List.toArray ws_r) 0) :: (D_p, listOf (List.toArray ws_p) 0) :: (D_B, LCg.lst ys_B) :: (D_s, listOf (List.toArray ws_s) 0) :: (D_A, LCg.lst ys_A) :: ledM = ledQ at N_w EQ hlQ hTQ
          have hr9 : ∀ x ∈ ([n1.fmod 256, n2.fmod 256, n3.fmod 256, n4.fmod 256, n5.fmod 256] ++ List.map (fun x => (x - 1).fmod 256) [n1.fmod 256, n2.fmod 256, n3.fmod 256, n4.fmod 256] ++ List.map (fun x => (x + 1).fmod 256) [n1.fmod 256, n2.fmod 256, n3.fmod 256, n4.fmod 256]), 0 ≤ x ∧ x < 256 := by
            have key : ∀ z : Int, 0 ≤ z.fmod 256 ∧ z.fmod 256 < 256 := fun z => ⟨Int.fmod_nonneg_of_pos _ (by decide), Int.fmod_lt_of_pos _ (by decide)⟩
            intro x hx
            simp only [List.map_cons, List.map_nil, List.cons_append, List.nil_append, List.mem_cons, List.not_mem_nil, or_false] at hx
            rcases hx with rfl | rfl | rfl | rfl | rfl | rfl | rfl | rfl | rfl | rfl | rfl | rfl | rfl <;> exact key _
          (try clear hLQ); (try clear up9); (try clear EM); (try clear hlM); (try clear hTM); (try clear N_r); (try clear N_p); (try clear F_r); (try clear F_p); (try clear hI_p); (try clear hI_u); (try clear hI_B); (try clear hI_C); (try clear hI_A); (try clear hA5); (try clear hI_t); (try clear o_A); (try clear o_B); (try clear o_C); (try clear l_p); (try clear l_r); (try clear l_s); (try clear sz_A); (try clear sz_B); (try clear sz_C); (try clear hI4); (try clear hnum); (try clear ht5); (try clear l4); (try clear l_q)
          (with_unfolding_all refine' For_invVF F_w ?k1 ?k2 ?_; (case k1 => exact rfl); (case k2 => exact rfl); k_whole)
          repeat' ((fail_if_success (with_reducible show wpAny _ _ (pyIter _) _ _ _)); first | (k_unfold; (try dsimp only)) | (k_end; wrow_close) | walk1 | (dsimp only; walk1) | (leave1; walk_say "STEP leave1"; try dsimp only) | fail "no step")
          refine iter_listUnr (lo := listOf (List.toArray ws_q) 0) (vs := ws_q) (n := 0) rfl F_w N_w (.head _) rfl rfl ?_
          intro Ia lIa
          refine list_ind (fun vv m led => ∃ ns' u, (D_q, listOf (List.toArray ws_q) 0) :: ledQ = led ∧ m = lm u D_q D_A xM lN lS ∧ IntsAre vv ns' ∧ (∀ x ∈ ns', 0 ≤ x ∧ x < 256)) ?_ ?_ ws_q _ _ ?_
          · rintro vv rr m9 led it ⟨ns', u, rfl, rfl, hi9, hlt9⟩ hic h9 tk9 F9 N9
            obtain ⟨xn, tn, ns2, rfl, rfl, hi10⟩ : ∃ xn tn ns2, vv = .int xn tn ∧ ns' = xn :: ns2 ∧ IntsAre rr ns2 := by
              cases hi9 with
              | cons n t h => exact ⟨n, t, _, rfl, rfl, h⟩
            have hx0 := (hlt9 xn (.head _)).1
            have hx1 := (hlt9 xn (.head _)).2
            have hbox := Box.mk (And.intro hi10 (fun x hx => hlt9 x (.tail _ hx)))
            clear hi10 hlt9 hi9
            obtain ⟨dx, lu, lr, refs, nn, n2', k1, k2, k3, k4, y1, y2, y3, y4, y5⟩ := id EQ
            have z1 : (xM, instObj 52 dx) ∈ (Ia, it) :: (D_q, listOf (List.toArray ws_q) 0) :: ledQ := .tail _ (.tail _ y1)
            have z2 : (dx, dictOf (entryD wW (.ref lu) (.ref lr) .none .none k1 k2 k3 k4) 4) ∈ (Ia, it) :: (D_q, listOf (List.toArray ws_q) 0) :: ledQ := .tail _ (.tail _ y2)
            have z3 : (lN, listOf (List.toArray vsN) cN) ∈ (Ia, it) :: (D_q, listOf (List.toArray ws_q) 0) :: ledQ := .tail _ (.tail _ hlQ)
            (show wpAny _ _ _ _ _ _); (try k_fold)
            repeat' ((fail_if_success (with_reducible show wpAny _ _ (PySem.call (Value.ref _) _) _ _ _)); (fail_if_success (with_reducible show wpAny _ _ (PySem.execs [] _) _ _ _)); first | (k_unfold; (try dsimp only)) | walk1 | (dsimp only; walk1))
            k_dflt (refine' name_call ?k1 ?k2 ?k3 ?k4 ?k5 ?k6 ?k7 ?k8 ?_; (case k1 => k_asm); (case k2 => k_asm); (case k3 => k_asm); (case k4 => exact N9); (case k5 => k_asm); (case k6 => exact rfl); (case k7 => ktr_room); (case k8 => ktr_units))
            intro t8 h8 tk8 F8 N8
            repeat' ((fail_if_success (with_reducible show wpAny _ _ (PySem.call (Value.ref _) _) _ _ _)); (fail_if_success (with_reducible show wpAny _ _ (PySem.execs [] _) _ _ _)); first | (k_unfold; (try dsimp only)) | walk1 | (dsimp only; walk1))
            k_dflt (refine' allowance_spec ?k1 ?k2 ?k3 ?k4 ?k5 N8 (EQ.mono (fun q hq => .tail _ (.tail _ hq))) ?k7 ?k8 rules_len (by rw [name_len]; decide) ?_; (case k1 => k_asm); (case k2 => k_asm); (case k3 => k_asm); (case k4 => k_asm); (case k5 => exact rfl); (case k7 => ktr_room); (case k8 => ktr_units))
            intro h7 tk7 F7 N7
            repeat' ((fail_if_success (with_reducible show wpAny _ _ (PySem.call (Value.ref _) _) _ _ _)); (fail_if_success (with_reducible show wpAny _ _ (PySem.execs [] _) _ _ _)); first | (k_unfold; (try dsimp only)) | walk1 | (dsimp only; walk1))
            rename_i D_z ws_z h_z F_z N_z hI_z hC_z hL_z l_z
            have hI_y : IntsAre ws_z [n1, n2, n3, n4] := hI_z
            k_dflt (refine' due_spec ?k1 ?k2 ?k3 ?k4 ?k5 N_z hI_y ?k7 ?k8 hx0 hx1 ?_; (case k1 => k_asm); (case k2 => k_asm); (case k3 => k_asm); (case k4 => k_asm); (case k5 => exact rfl); (case k7 => ktr_room); (case k8 => ktr_units))
            intro r6 h6 tk6 F6 N6 hDue
            rw [law_plain hx0 hx1 hDue]
            clear hDue hx0 hx1 hI_y hI_z hC_z hL_z N_z F_z
            repeat' ((fail_if_success (with_reducible show wpAny _ _ (PySem.call (Value.ref _) _) _ _ _)); (fail_if_success (with_reducible show wpAny _ _ (PySem.execs _ _) _ _ _)); first | (k_unfold; (try dsimp only)) | walk1 | (dsimp only; walk1))
            · exact absurd ‹(r6 != r6) = true› (by cases r6 <;> decide)
            · (repeat' (first | ((with_reducible refine wpAny_execs_nil ?_); (try dsimp only)) | (k_unfold; (try dsimp only)) | (dsimp only [UnrPost])))
              obtain ⟨hi10, hlt9⟩ := hbox.out
              have N6' : News (ghostOf s1.heap [(83, 79)]) s1.heap.objs.size h6 ((Ia, it) :: (D_q, listOf (List.toArray ws_q) 0) :: ledQ) := fun q hq => N6 q (.tail _ hq)
              refine UnrEnd.intro F6 N6' ((D_q, listOf (List.toArray ws_q) 0) :: ledQ) (fun p hp => hp) (unr_off lIa) ⟨.head _, ns2, _, rfl, lm_norm (fun y e1 => by simp only [if_neg e1, lm]), hi10, hlt9⟩
          · rintro m9 led ⟨ns', u, rfl, rfl, hi9, hsub⟩ h9 tk9 F9 N9
            clear hsub hi9 hr9 hI_q EQ lIa hlQ
            have zT : (79, tabObj ps) ∈ (D_q, listOf (List.toArray ws_q) 0) :: ledQ := .tail _ hTQ
            k_steps
          · exact ⟨_, _, rfl, lm_norm (fun y e1 => rfl), hI_q, hr9⟩
end Mine
end
theorem PySem.Challenge.cw_ny0467_01_holds : PySem.Challenge.rw_ny0467_01.Holds := by
  exact Mine.law_holds
