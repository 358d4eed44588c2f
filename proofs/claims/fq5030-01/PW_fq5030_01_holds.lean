import PyProof.Rows.All
import Wide.All
import OpenK.AllK
import Wide.FinOn
import PySem.Challenge.RW_fq5030_01
set_option Elab.async false

section
open PySem PySem.W PyProof.Rows
namespace Mine
set_option maxRecDepth 100000 in
set_option maxHeartbeats 8000000 in
open_top hd for PySem.Challenge.rw_fq5030_01
end Mine
end

section
open PySem PySem.W PyProof.Rows PySem.Calls
namespace Mine
set_option maxRecDepth 100000

/-- the written part of the heap behind the top -/
noncomputable abbrev KH (w : World) : Frag := hd.heap_39 w.params
abbrev pg : Program := PySem.Challenge.rw_fq5030_01.row.prog

structure DCls (h : Heap) (cls : Value) : Prop where
  sub : ∀ M, Looks M h (isSubtype cls (.type "dict")) true
  fgets : ∀ M, Looks M h (typeLookup cls "__getitem__") (some (.builtin "dict.__getitem__"))
  fsets : ∀ M, Looks M h (typeLookup cls "__setitem__") (some (.builtin "dict.__setitem__"))
  fcons : ∀ M, Looks M h (typeLookup cls "__contains__") (some (.builtin "dict.__contains__"))
  fiter : ∀ M, Looks M h (typeLookup cls "__iter__") (some (.builtin "dict.__iter__"))
  flen : ∀ M, Looks M h (typeLookup cls "__len__") (some (.builtin "dict.__len__"))
  feq : ∀ M, Looks M h (typeLookup cls "__eq__") (some (.builtin "dict.__eq__"))
  finit : (cls = .type "dict") ∨ (∃ a, cls = .ref a)
  nodeq : ∀ M, Looks M h (isSubtype cls (.type "collections.deque")) false
  noord : ∀ M, Looks M h (isSubtype cls (.type "collections.OrderedDict")) false
  ga : ∃ g, (∀ M, Looks M h (typeLookup cls "__getattribute__") (some (.builtin g))) ∧ (Manifest.canonical g != "object.__getattribute__") = false
  gattr : ∀ M, Looks M h (typeLookup cls "__getattr__") none
  fget : ∀ M, Looks M h (typeLookup cls "get") (some (.builtin "dict.get"))

theorem DCls.keeps {h h' : Heap} {cls : Value} (x : DCls h cls) (k : ∀ b o, h.get? b = some o → h'.get? b = some o) : DCls h' cls where
  sub M := (x.sub M).keeps k
  fgets M := (x.fgets M).keeps k
  fsets M := (x.fsets M).keeps k
  fcons M := (x.fcons M).keeps k
  fiter M := (x.fiter M).keeps k
  flen M := (x.flen M).keeps k
  feq M := (x.feq M).keeps k
  finit := x.finit
  nodeq M := (x.nodeq M).keeps k
  noord M := (x.noord M).keeps k
  ga := let ⟨g, a, b⟩ := x.ga; ⟨g, fun M => (a M).keeps k, b⟩
  gattr M := (x.gattr M).keeps k
  fget M := (x.fget M).keeps k

theorem dcls_dict (h : Heap) : DCls h (.type "dict") where
  sub M := Looks.of_pure (by rw [isSubtype_type]; kernel_rfl)
  fgets M := Looks.of_pure slot_dict_getitem.lookup
  fsets M := Looks.of_pure slot_dict_setitem.lookup
  fcons M := Looks.of_pure slot_dict_contains.lookup
  fiter M := Looks.of_pure PySem.F.slot_dict_iter.lookup
  flen M := Looks.of_pure PySem.F.slot_dict_len.lookup
  feq M := Looks.of_pure PySem.F.slot_dict_eq.lookup
  finit := .inl rfl
  nodeq M := Looks.of_pure (by rw [isSubtype_type]; kernel_rfl)
  noord M := Looks.of_pure (by rw [isSubtype_type]; kernel_rfl)
  ga := let ⟨g, a, b⟩ := PySem.F.plainAttrs_dict.ga; ⟨g, fun M => Looks.of_pure a, b⟩
  gattr M := Looks.of_pure PySem.F.plainAttrs_dict.noGetattr
  fget M := Looks.of_pure PySem.F.slot_dict_get.lookup

theorem dcls_ctr {w : World} {h : Heap} (X : (KH w).In h) : DCls h (.ref 67) where
  sub M := looks_subIn X (by kernel_rfl)
  fgets M := looks_findIn X (by kernel_rfl)
  fsets M := looks_findIn X (by kernel_rfl)
  fcons M := looks_findIn X (by kernel_rfl)
  fiter M := looks_findIn X (by kernel_rfl)
  flen M := looks_findIn X (by kernel_rfl)
  feq M := looks_findIn X (by kernel_rfl)
  finit := .inr ⟨_, rfl⟩
  nodeq M := looks_subIn X (by kernel_rfl)
  noord M := looks_subIn X (by kernel_rfl)
  ga := ⟨_, fun M => looks_findIn X (r := some (.builtin "dict.__getattribute__")) (by kernel_rfl), by decide +kernel⟩
  gattr M := looks_findIn X (by kernel_rfl)
  fget M := looks_findIn X (by kernel_rfl)

end Mine
end

section
open PySem PySem.W PyProof.Rows PySem.Calls
set_option linter.unusedVariables false
namespace Mine
set_option maxRecDepth 100000

def DLe (w : World) (h : Heap) (cls : Value) (od : Option Addr) (a : Addr) (kvs : List (Str × Value)) (ep : Nat) : Prop :=
  @LT.lt Nat _ 95 a ∧ ∃ es, h.get? a = some ⟨cls, od, .dict es ep, #[]⟩ ∧ KeysOf (strKind pg w) es ∧ Pairs (strKind pg w) es.toList kvs ∧ (kvs.map (·.1)).Nodup
def DL (w : World) (h : Heap) (cls : Value) (od : Option Addr) (a : Addr) (kvs : List (Str × Value)) : Prop := ∃ ep, DLe w h cls od a kvs ep

section
variable {w : World} {h h' : Heap} {cls : Value} {od : Option Addr} {a : Addr} {kvs : List (Str × Value)} {ep : Nat}
theorem DLe.keeps (x : DLe w h cls od a kvs ep) (k : ∀ b o, h.get? b = some o → h'.get? b = some o) : DLe w h' cls od a kvs ep :=
  let ⟨n, es, ho, r⟩ := x; ⟨n, es, k _ _ ho, r⟩
theorem DLe.at' (x : DLe w h cls od a kvs ep) (k : ∀ o, h.get? a = some o → h'.get? a = some o) : DLe w h' cls od a kvs ep :=
  let ⟨n, es, ho, r⟩ := x; ⟨n, es, k _ ho, r⟩
theorem DL.keeps (x : DL w h cls od a kvs) (k : ∀ b o, h.get? b = some o → h'.get? b = some o) : DL w h' cls od a kvs := let ⟨ep, x⟩ := x; ⟨ep, x.keeps k⟩
theorem DL.at' (x : DL w h cls od a kvs) (k : ∀ o, h.get? a = some o → h'.get? a = some o) : DL w h' cls od a kvs := let ⟨ep, x⟩ := x; ⟨ep, x.at' k⟩
theorem DL.type (x : DL w h cls od a kvs) (M : Model) : Looks M h (typeOf (.ref a)) cls :=
  let ⟨_, _, _, ho, _⟩ := x; (Looks.ld (part := none) ho).andThen .now
theorem DL.inst (x : DL w h cls od a kvs) (D : DCls h cls) (M : Model) : Looks M h (isInstance (.ref a) (.type "dict")) true := (x.type M).andThen (D.sub M)
theorem DL.special (x : DL w h cls od a kvs) {M : Model} {name : Str} {r : Option Value} (l : Looks M h (typeLookup cls name) r) : Looks M h (specialOf (.ref a) name) r := (x.type M).andThen l
theorem DL.nodup (x : DL w h cls od a kvs) : (kvs.map (·.1)).Nodup := let ⟨_, _, _, _, _, _, n⟩ := x; n
theorem nsm_of {a : Addr} (n : @LT.lt Nat _ 95 a) : (a == sysModules) = false := beq_eq_false_iff_ne.mpr (fun e => by subst e; exact absurd n (by decide))
theorem DL.gt (x : DL w h cls od a kvs) : @LT.lt Nat _ 95 a := let ⟨_, n, _⟩ := x; n
theorem DL.nsm (x : DL w h cls od a kvs) : (a == sysModules) = false := nsm_of x.gt
theorem DL.lt (x : DL w h cls od a kvs) : a < h.objs.size := let ⟨_, _, _, ho, _⟩ := x; Heap.lt_size ho
theorem DL.dictOf (x : DL w h (.type "dict") none a kvs) : h.DictOf (strKind pg w) a kvs := let ⟨ep, _, es, ho, r⟩ := x; ⟨_, es, ep, ho, ⟨rfl, rfl, rfl⟩, rfl, r⟩
theorem DL.of_dictOf (n : @LT.lt Nat _ 95 a) (x : h.DictOf (strKind pg w) a kvs) : DL w h (.type "dict") none a kvs := by
  obtain ⟨⟨c, d, dt, sl⟩, es, ep, ho, ⟨h1, h2, h3⟩, hd, r⟩ := x
  dsimp only at h1 h2 h3 hd
  subst h1 h2 h3 hd
  exact ⟨ep, n, es, ho, r⟩
end

section
variable {M : Model} {A : Around} {E : Value → Shared → Prop} {s : Shared}
theorem looks_bindB {id : String} {self : Value} {h : Heap} (hb : bindSpecial (.builtin id) self = pure (.builtin id, [self])) : Looks M h (bindSpecial (.builtin id) self) (.builtin id, [self]) := Looks.of_pure hb

theorem sp_call {self : Value} {name : Str} {id : String} {args : List Value} {Q : Option Value → Shared → Prop}
    (l : Looks M s.heap (specialOf self name) (some (.builtin id))) (hb : bindSpecial (.builtin id) self = pure (.builtin id, [self]))
    (hc : wpAny M A (call (.builtin id) (self :: args)) (fun v => Q (some v)) E s) : wpAny M A (callSpecial? self name args) Q E s := by
  simp only [callSpecial?]
  refine wpAny_bind (l.here ?_)
  simp only [hb]
  exact wpAny_holding (wpAny_bind (wpAny_pure (wpAny_bind (wpAny_mono hc (fun v s' h' => wpAny_pure h') fun _ _ h' => h'))))

theorem sp_callU {self : Value} {name : Str} {id : String} {args : List Value} {refuse : Sem Value} {Q : Option Value → Shared → Prop}
    (l : Looks M s.heap (specialOf self name) (some (.builtin id))) (hb : bindSpecial (.builtin id) self = pure (.builtin id, [self]))
    (hc : wpAny M A (call (.builtin id) (self :: args)) (fun v => Q (some v)) E s) : wpAny M A (callSpecialUnlessNone? self name args refuse) Q E s := by
  simp only [callSpecialUnlessNone?]
  refine wpAny_bind (l.here ?_)
  simp only [hb]
  refine wpAny_holding (wpAny_bind (wpAny_pure ?_))
  simp only [builtin_beq_none, Bool.false_eq_true, if_false]
  exact wpAny_bind (wpAny_mono hc (fun v s' h' => wpAny_pure h') fun _ _ h' => h')

theorem sp_callB {self : Value} {name : Str} {id : String} {args : List Value} {Q : Option Value → Shared → Prop}
    (l : Looks M s.heap (specialOf self name) (some (.builtin id))) (hb : bindSpecial (.builtin id) self = pure (.builtin id, [self]))
    (hc : wpAny M A (call (.builtin id) (self :: args)) (fun v => Q (some v)) E s) : wpAny M A (callSpecialIfBound? self name args) Q E s := by
  simp only [callSpecialIfBound?, bindSpecialIfBound?]
  refine wpAny_holding (wpAny_bind (wpAny_bind (l.here ?_)))
  simp only [hb]
  refine wpAny_bind (wpAny_askSetting (wpAny_ite ?_))
  have fin : wpAny M A (call (.builtin id) ([self] ++ args) >>= fun v => pure (some v)) Q E s :=
    wpAny_bind (wpAny_mono hc (fun v s' h' => wpAny_pure h') fun _ _ h' => h')
  split
  · exact wpAny_bind (wpAny_pure (wpAny_pure fin))
  · exact wpAny_tryCatch (wpAny_bind (wpAny_pure (wpAny_pure fin)))

theorem sp_callBU {self : Value} {name : Str} {id : String} {refuse : Sem Value} {Q : Option Value → Shared → Prop}
    (l : Looks M s.heap (specialOf self name) (some (.builtin id))) (hb : bindSpecial (.builtin id) self = pure (.builtin id, [self]))
    (hc : wpAny M A (call (.builtin id) [self]) (fun v => Q (some v)) E s) : wpAny M A (callSpecialIfBoundUnlessNone? self name refuse) Q E s := by
  simp only [callSpecialIfBoundUnlessNone?, bindSpecialIfBound?]
  refine wpAny_holding (wpAny_bind (wpAny_bind (l.here ?_)))
  simp only [hb]
  refine wpAny_bind (wpAny_askSetting (wpAny_ite ?_))
  have fin : wpAny M A (if (Value.builtin id == Value.none) = true then (refuse >>= fun v => pure (some v)) else (call (.builtin id) [self] >>= fun v => pure (some v))) Q E s := by
    simp only [builtin_beq_none, Bool.false_eq_true, if_false]
    exact wpAny_bind (wpAny_mono hc (fun v s' h' => wpAny_pure h') fun _ _ h' => h')
  split
  · exact wpAny_bind (wpAny_pure (wpAny_pure fin))
  · exact wpAny_tryCatch (wpAny_bind (wpAny_pure (wpAny_pure fin)))

theorem check_meth {i owner n : String} {self : Value} {rest : List Value} {Q : Unit → Shared → Prop}
    (hk : builtinKind i = some .slot ∨ builtinKind i = some .method) (hs : splitId i = some (owner, n)) (hi : Looks M s.heap (isInstance self (.type owner)) true) (ha : argsOk i ⟨self :: rest, []⟩) (q : Q () s) :
    wpAny M A (checkBuiltinCall i ⟨self :: rest, []⟩) Q E s := by
  rcases hk with hk | hk
  · exact check_slot hk hs hi ha q
  · simp only [checkBuiltinCall, hk, hs]
    refine wpAny_bind (hi.here ?_)
    simp only [Bool.not_true, Bool.false_eq_true, if_false]
    cases hsig : Manifest.signature? i with
    | none => exact wpAny_pure q
    | some sig =>
      simp only [argsOk, hsig] at ha
      have h2 : Bind.checkArgs i sig ⟨self :: rest, []⟩ = pure () := ha
      show wpAny M A (Bind.checkArgs i sig ⟨self :: rest, []⟩) Q E s
      rw [h2]; exact wpAny_pure q
end

section
variable {prog : Program} {w : World} {A : Around} {E : Value → Shared → Prop} {s : Shared}
theorem call_meth' {i owner n : String} {b : Builtin} {self : Value} {rest : List Value} {Q : Value → Shared → Prop}
    (hk : builtinKind i = some .slot ∨ builtinKind i = some .method) (hs : splitId i = some (owner, n)) (hp : plainId i = true) (hb : entryFor table i = some b)
    (hi : Looks (model prog w) s.heap (isInstance self (.type owner)) true) (ha : argsOk i ⟨self :: rest, []⟩)
    (hc : wpAny (model prog w) A.in1 (b ⟨self :: rest, []⟩) (fun fin s' => ∃ v, fin = .done (.ret v) ∧ Q v s') E s) :
    wpAny (model prog w) A (call (.builtin i) (self :: rest)) Q E s := by
  refine wpAny_call (codeAny_call_builtin hp hb (check_meth hk hs hi ha (wpAny_mono hc (fun fin s' h' => ?_) fun _ _ h' => h')))
  obtain ⟨v, rfl, hv⟩ := h'; exact hv
end

section
variable {w : World} {A : Around} {E : Value → Shared → Prop} {s : Shared} {cls : Value} {od : Option Addr} {a : Addr} {kvs : List (Str × Value)} {k : Str} {tk : Tok}

theorem dl_dictGet {key : Value} {Q : Option Value → Shared → Prop} (x : DL w s.heap cls od a kvs) (hk : (strKind pg w).is k key = true)
    (h : Q (valueAt kvs k) { s with toks := s.toks + 1 }) : wpAny (model pg w) A (dictGet a key) Q E s := by
  obtain ⟨ep, _, es, ho, hko, hp, hn⟩ := x
  have hd : (⟨cls, od, .dict es ep, #[]⟩ : Obj).data = .dict es ep := rfl
  unfold dictGet
  try with_reducible refine wpAny_holding ?_
  refine wpAny_bind ((strKind pg w).pyHash hk (wpAny_bind (wpAny_dictFind_of (s := { s with toks := s.toks + 1 }) hk ho hd hko ?_)))
  have hf := hp.find k
  rw [← hf] at h
  cases hi : es.findIdx? fun e => (strKind pg w).is k e.key with
  | none =>
    have : (es.toList.find? fun e => (strKind pg w).is k e.key) = none := by
      rw [Array.findIdx?_eq_none_iff] at hi
      rw [List.find?_eq_none]
      intro e he; have := hi e (Array.mem_toList_iff.mp he); simp [this]
    rw [this] at h; exact wpAny_pure h
  | some i =>
    have h2 : (es.toList.findIdx? fun e => (strKind pg w).is k e.key) = some i := by
      rw [← hi, ← List.findIdx?_toArray]
    obtain ⟨e, he, hke, hv⟩ := hp.at h2
    rw [hf, hv] at h
    have he' : es[i]? = some e := by simpa using he
    exact wpAny_bind (wpAny_dictEntries (s := { s with toks := s.toks + 1 }) ho hd (by rw [he']; exact wpAny_pure h))

theorem seqKey_ref {o k : Value} {name : Str} {h : Heap} {M : Model} {cls : Value} (hc : Looks M h (typeOf o) cls) (hq : (cls = .type "dict") ∨ (∃ a, cls = .ref a)) (hn : Looks M h (isSubtype cls (.type "collections.deque")) false) :
    Looks M h (sequenceKey o k name) k := by
  unfold sequenceKey
  refine hc.andThen ?_
  rcases hq with rfl | ⟨a, rfl⟩
  · exact Looks.of_pure (by kernel_rfl)
  · show Looks M h (seqItemTypes.anyM (fun n => isSubtype (.ref a) (.type n)) >>= _) k
    have : Looks M h (seqItemTypes.anyM (fun n => isSubtype (.ref a) (.type n))) false := by
      show Looks M h (["collections.deque"].anyM _) false
      unfold List.anyM
      refine hn.andThen ?_
      exact Looks.of_pure rfl
    refine this.andThen ?_
    exact Looks.of_pure rfl

theorem dl_getItem {v : Value} {Q : Value → Shared → Prop} (x : DL w s.heap cls od a kvs) (D : DCls s.heap cls) {key : Value} (hk : (strKind pg w).is k key = true)
    (hv : valueAt kvs k = some v) (h : Q v { s with toks := s.toks + 1 }) : wpAny (model pg w) A (getItem (.ref a) key) Q E s := by
  unfold getItem
  try with_reducible refine wpAny_holding ?_
  refine wpAny_bind ((seqKey_ref (x.type _) D.finit (D.nodeq _)).here ?_)
  refine wpAny_bind (sp_call (x.special (D.fgets _)) (slot_dict_getitem.bind _) ?_)
  refine call_meth' (n := "__getitem__") (.inr (by decide +kernel)) (by decide +kernel) slot_dict_getitem.plain entry_dict_getitem (x.inst D _) (args_dict_getitem _ _) ?_
  show wpAny _ _ (dictGet a key >>= _) _ _ s
  refine wpAny_bind (dl_dictGet x hk ?_)
  rw [hv]
  exact wpAny_pure ⟨v, rfl, wpAny_pure h⟩

theorem dl_contains {Q : Bool → Shared → Prop} (x : DL w s.heap cls od a kvs) (D : DCls s.heap cls) {key : Value} (hk : (strKind pg w).is k key = true)
    (h : Q (valueAt kvs k).isSome { s with toks := s.toks + 1 }) : wpAny (model pg w) A (contains (.ref a) key) Q E s := by
  unfold contains
  try with_reducible refine wpAny_holding ?_
  refine wpAny_bind ((x.special (D.fcons _)).here ?_)
  show wpAny _ _ (if (some (Value.builtin "dict.__contains__") == some Value.none) = true then _ else _) _ E s
  rw [if_neg (by rw [beq_builtin_none]; exact Bool.false_ne_true)]
  refine wpAny_bind (sp_callU (x.special (D.fcons _)) (slot_dict_contains.bind _) ?_)
  refine call_meth' (n := "__contains__") (.inr (by decide +kernel)) (by decide +kernel) slot_dict_contains.plain entry_dict_contains (x.inst D _) (args_dict_contains _ _) ?_
  show wpAny _ _ (dictGet a key >>= _) _ _ s
  refine wpAny_bind (dl_dictGet x hk ?_)
  cases hf : valueAt kvs k with
  | some v =>
    rw [hf] at h
    show wpAny _ _ (ret (.bool true)) _ _ _
    exact wpAny_pure ⟨_, rfl, wpAny_truthy_bool h⟩
  | none =>
    rw [hf] at h
    show wpAny _ _ (Builtin.Dict.pendingKey? a key >>= _) _ _ _
    exact wpAny_bind (wpAny_pendingKey_other x.nsm (wpAny_pure ⟨_, rfl, wpAny_truthy_bool h⟩))

theorem dl_in {Q : Value → Shared → Prop} (x : DL w s.heap cls od a kvs) (D : DCls s.heap cls) {key : Value} (hk : (strKind pg w).is k key = true)
    (h : Q (.bool (valueAt kvs k).isSome) { s with toks := s.toks + 1 }) : wpAny (model pg w) A (compareOp .In key (.ref a)) Q E s := by
  show wpAny _ _ (do return .bool (← contains (.ref a) key)) Q E s
  exact wpAny_bind (dl_contains x D hk (wpAny_pure h))
theorem dl_notin {Q : Value → Shared → Prop} (x : DL w s.heap cls od a kvs) (D : DCls s.heap cls) {key : Value} (hk : (strKind pg w).is k key = true)
    (h : Q (.bool (!(valueAt kvs k).isSome)) { s with toks := s.toks + 1 }) : wpAny (model pg w) A (compareOp .NotIn key (.ref a)) Q E s := by
  show wpAny _ _ (do return .bool (!(← contains (.ref a) key))) Q E s
  exact wpAny_bind (dl_contains x D hk (wpAny_pure h))

theorem noord_of {name : String} {rest : List Value} {h : Heap} {M : Model} (hc : Looks M h (typeOf (.ref a)) cls) (hn : Looks M h (isSubtype cls (.type "collections.OrderedDict")) false) :
    Looks M h (Builtin.Dict.notOrdered name ⟨.ref a :: rest, []⟩) () := by
  unfold Builtin.Dict.notOrdered
  split
  · refine hc.andThen ?_
    split
    · refine (hc.andThen hn : Looks M h (isInstance (.ref a) (.type "collections.OrderedDict")) false).andThen ?_
      exact Looks.of_pure rfl
    · exact Looks.of_pure rfl
  · exact Looks.of_pure rfl
end

section
variable {w : World} {A : Around} {E : Value → Shared → Prop} {s : Shared} {cls : Value} {od : Option Addr} {a : Addr} {kvs : List (Str × Value)} {k : Str} {tk : Tok}

theorem dl_dictSet {key v : Value} {Q : Unit → Shared → Prop} (x : DL w s.heap cls od a kvs) (hk : (strKind pg w).is k key = true)
    (hQ : ∀ h', DL w h' cls od a (stored kvs k v) → Heap.SameBut a s.heap h' → Q () { s with heap := h', toks := s.toks + 1 })
    (hsz : kvs.length ≤ sizeLine) : wpAny (model pg w) A (dictSet a key v) Q E s := by
  obtain ⟨ep, nm, es, ho, hko, hp, hn⟩ := x
  have hd : (⟨cls, od, .dict es ep, #[]⟩ : Obj).data = .dict es ep := rfl
  have hlen : es.size = kvs.length := by rw [← hp.length]; simp
  unfold dictSet
  try with_reducible refine wpAny_holding ?_
  refine wpAny_bind ((strKind pg w).pyHash hk ?_)
  unfold dictSetHashed
  try with_reducible refine wpAny_holding ?_
  refine wpAny_bind (wpAny_dictFind_of (s := { s with toks := s.toks + 1 }) hk ho hd hko ?_)
  cases hi : es.findIdx? fun e => (strKind pg w).is k e.key with
  | some i =>
    have h2 : (es.toList.findIdx? fun e => (strKind pg w).is k e.key) = some i := by rw [← hi, ← List.findIdx?_toArray]
    have h3 : (kvs.findIdx? fun kv => decide (kv.1 = k)) = some i := by rw [← hp.findIdx]; exact h2
    have es' : stored kvs k v = kvs.map fun kv => if kv.1 = k then (kv.1, v) else kv := by unfold stored; rw [if_pos (any_of_findIdx_some h3)]
    refine wpAny_bind (wpAny_rule (wpAny_bind (wpAny_updateDict (s := { s with toks := s.toks + 1 }) ho hd (wpAny_point (hQ _ ⟨ep, nm, es.modify i fun e => { e with val := v }, ?_, hko.modify _ _, ?_, ?_⟩ (Heap.SameBut.update ..))))))
    · exact Heap.get?_update_self _ ho rfl
    · rw [es', Array.toList_modify]; exact hp.modify hn h2 v
    · rw [es', keys_map_store]; exact hn
  | none =>
    have h2 : (es.toList.findIdx? fun e => (strKind pg w).is k e.key) = none := by rw [← hi, ← List.findIdx?_toArray]
    have h3 : (kvs.findIdx? fun kv => decide (kv.1 = k)) = none := by rw [← hp.findIdx]; exact h2
    have nmem := not_mem_of_findIdx_none h3
    have es' : stored kvs k v = kvs ++ [(k, v)] := by
      unfold stored
      rw [if_neg]
      intro hany
      obtain ⟨kv, hm, he⟩ := List.any_eq_true.mp hany
      exact nmem (List.mem_map.mpr ⟨kv, hm, of_decide_eq_true he⟩)
    refine wpAny_bind (wpAny_rule (wpAny_updateDictKeys (hz := by rw [hlen]; exact hsz) (s := { s with toks := s.toks + 1 }) ho hd (hQ _ ⟨ep + 1, nm, es.push ⟨(strKind pg w).hash k, key, v⟩, ?_, hko.push hk _, ?_, ?_⟩ (Heap.SameBut.update ..))))
    · exact Heap.get?_update_self _ ho rfl
    · rw [es', Array.toList_push]; exact hp.append hk _ v
    · rw [es', List.map_append]
      exact List.nodup_append.mpr ⟨hn, by simp, fun x hx y hy e => by simp at hy; subst hy; subst e; exact nmem hx⟩

theorem dl_setItem {key v : Value} {Q : Unit → Shared → Prop} (x : DL w s.heap cls od a kvs) (D : DCls s.heap cls) (hk : (strKind pg w).is k key = true)
    (hQ : ∀ h', DL w h' cls od a (stored kvs k v) → Heap.SameBut a s.heap h' → Q () { s with heap := h', toks := s.toks + 1 })
    (hsz : kvs.length ≤ sizeLine) : wpAny (model pg w) A (setItem (.ref a) key v) Q E s := by
  unfold setItem
  try with_reducible refine wpAny_holding ?_
  refine wpAny_bind ((seqKey_ref (x.type _) D.finit (D.nodeq _)).here ?_)
  refine wpAny_bind (sp_call (x.special (D.fsets _)) (slot_dict_setitem.bind _) ?_)
  refine call_meth' (n := "__setitem__") (.inl (by decide +kernel)) (by decide +kernel) slot_dict_setitem.plain entry_dict_setitem (x.inst D _) (args_dict_setitem _ _ _) ?_
  show wpAny _ _ (Builtin.Dict.notOrdered "__setitem__" ⟨[.ref a, key, v], []⟩ >>= _) _ _ s
  refine wpAny_bind ((noord_of (x.type _) (D.noord _)).here ?_)
  show wpAny _ _ (dictSet a key v >>= _) _ _ s
  exact wpAny_bind (dl_dictSet x hk (fun h' x' hs' => wpAny_pure ⟨.none, rfl, wpAny_pure (hQ h' x' hs')⟩) hsz)

theorem dl_get2 {key dflt : Value} {Q : Value → Shared → Prop} (x : DL w s.heap cls od a kvs) (D : DCls s.heap cls) (hk : (strKind pg w).is k key = true)
    (h : Q ((valueAt kvs k).getD dflt) { s with toks := s.toks + 1 }) : wpAny (model pg w) A (call (.builtin "dict.get") [.ref a, key, dflt]) Q E s := by
  refine call_meth' (n := "get") (.inr (by decide +kernel)) (by decide +kernel) PySem.F.slot_dict_get.plain PySem.F.entry_dict_get (x.inst D _) (PySem.F.args_dict_get_3 _ _ _) ?_
  show wpAny _ _ (dictGet a key >>= _) _ _ s
  refine wpAny_bind (dl_dictGet x hk ?_)
  cases hf : valueAt kvs k with
  | some v =>
    rw [hf] at h
    exact wpAny_pure ⟨v, rfl, h⟩
  | none =>
    rw [hf] at h
    show wpAny _ _ (Builtin.Dict.missed a key >>= _) _ _ _
    exact wpAny_bind (wpAny_missed_other x.nsm (wpAny_pure ⟨dflt, rfl, h⟩))

theorem dl_len {Q : Value → Shared → Prop} (x : DL w s.heap cls od a kvs) (D : DCls s.heap cls) (hfit : (kvs.length : Int) < 2 ^ 63)
    (h : Q (.int kvs.length (s.toks + 1)) { s with toks := s.toks + 1 + 1 }) : wpAny (model pg w) A (call (.builtin "len") [.ref a]) Q E s := by
  refine Calls.call_function_entry kind_len plain_len entry_len (args_len1 _) ?_
  unfold Builtin.«len»
  refine wpAny_bind (m := oneArg "len" _) (wpAny_pure ?_)
  refine wpAny_bind (m := callSpecial? (.ref a) (Str.ofString "__len__")) ?_
  refine sp_call (x.special (D.flen _)) (PySem.F.slot_dict_len.bind _) ?_
  refine call_meth' (n := "__len__") (.inl (by decide +kernel)) (by decide +kernel) PySem.F.slot_dict_len.plain PySem.F.entry_dict_len (x.inst D _) (PySem.F.args_dict_len_1 _) ?_
  obtain ⟨ep, nm, es, ho, hko, hp, hn⟩ := id x
  have hd : (⟨cls, od, .dict es ep, #[]⟩ : Obj).data = .dict es ep := rfl
  have hlen : es.size = kvs.length := by rw [← hp.length]; simp
  show wpAny _ _ (dictSize a >>= _) _ _ s
  refine wpAny_bind ?_
  refine wpAny_mono (Q := fun n s' => n = kvs.length ∧ s' = s) ?_ ?_ (fun _ _ e => e)
  · unfold dictSize
    refine wpAny_bind (wpAny_dictEntries ho hd ?_)
    exact wpAny_pure ⟨hlen, rfl⟩
  · rintro n s' ⟨rfl, rfl⟩
    refine wpAny_bind (wpAny_pendingCount_other (nsm_of nm) ?_)
    show wpAny _ _ (mkInt _ >>= _) _ _ _
    refine wpAny_bind (wpAny_mkInt (wpAny_pure ⟨_, rfl, ?_⟩))
    rw [show ((kvs.length : Nat) : Int) + ((0 : Nat) : Int) = (kvs.length : Int) by omega]
    refine wpAny_bind (wpAny_holding (wpAny_pure ?_))
    refine wpAny_bind (wpAny_letGo ?_)
    show wpAny _ _ (if ((kvs.length : Nat) : Int) < 0 then _ else _) _ _ _
    rw [if_neg (by omega)]
    show wpAny _ _ (if ((kvs.length : Nat) : Int) ≥ 2 ^ 63 then _ else _) _ _ _
    rw [if_neg (by omega)]
    exact wpAny_bind (wpAny_mkInt (wpAny_pure ⟨_, rfl, h⟩))

theorem dl_pyIter {ep : Nat} {Q : Value → Shared → Prop} (x : DLe w s.heap cls od a kvs ep) (D : DCls s.heap cls)
    (hQ : Q (.ref s.heap.objs.size) { s with heap := s.heap.push { cls := .type "dict_keyiterator", data := .fields #[.ref a, .int 0 0, .int kvs.length 0, .int ep 0] } }) :
    wpAny (model pg w) A (pyIter (.ref a)) Q E s := by
  have X : DL w s.heap cls od a kvs := ⟨ep, x⟩
  obtain ⟨nm, es, ho, hko, hp, hn⟩ := x
  have hd : (⟨cls, od, .dict es ep, #[]⟩ : Obj).data = .dict es ep := rfl
  have hsz : es.size = kvs.length := by rw [← hp.length]; simp
  unfold pyIter
  refine wpAny_bind ((X.special (D.fiter _)).here ?_)
  show wpAny _ _ (callSpecialIfBoundUnlessNone? (.ref a) "__iter__" _ >>= _) _ _ s
  refine wpAny_bind (sp_callBU (X.special (D.fiter _)) (PySem.F.slot_dict_iter.bind _) ?_)
  refine call_meth' (n := "__iter__") (.inl (by decide +kernel)) (by decide +kernel) PySem.F.slot_dict_iter.plain PySem.F.entry_dict_iter (X.inst D _) (PySem.F.args_dict_iter_1 _) ?_
  unfold Builtin.«dict.__iter__»
  refine wpAny_bind ?_
  unfold Builtin.Dict.dictSlotNone
  refine wpAny_bind ((noord_of (X.type _) (D.noord _)).here ?_)
  show wpAny _ _ (pure (Value.ref a)) _ _ s
  refine wpAny_pure ?_
  show wpAny _ _ (Builtin.Dict.showsAll a >>= _) _ _ s
  unfold Builtin.Dict.showsAll
  rw [if_neg (by rw [nsm_of nm]; exact Bool.false_ne_true)]
  refine wpAny_bind (wpAny_pure ?_)
  refine wpAny_bind (wpAny_dictEntries ho hd ?_)
  refine wpAny_bind (wpAny_dictEpoch ho hd ?_)
  refine wpAny_bind (wpAny_newObj_type (wpAny_pure ⟨_, rfl, ?_⟩))
  refine wpAny_bind (wpAny_specialOf (T := "dict_keyiterator") ⟨_, Heap.get?_push_size _ rfl, rfl⟩ PySem.F.slot_dict_keyiterator_next.lookup (wpAny_pure ?_))
  simpa [rawInt, hsz] using hQ

theorem dl_next {it : Addr} {i ep : Nat} {v : Value} {Q : Option Value → Shared → Prop} (hit : s.heap.IsKeyIter it a i kvs.length ep) (x : DLe w s.heap cls od a kvs ep) (hx : kvs[i]? = some (k, v))
    (hQ : ∀ tk h', h'.IsKeyIter it a (i + 1) kvs.length ep → Heap.SameBut it s.heap h' → Q (some (.str k tk)) { s with heap := h' }) :
    wpAny (model pg w) A (pyNext (.ref it)) Q E s := by
  obtain ⟨o, ho, hc, hd⟩ := id hit
  obtain ⟨nm, es, hod, hk, hp, hn⟩ := id x
  have hdd : (⟨cls, od, .dict es ep, #[]⟩ : Obj).data = .dict es ep := rfl
  have hsz : es.size = kvs.length := by rw [← hp.length]; simp
  unfold pyNext
  refine wpAny_bind (wpAny_attempt (wpAny_callSpecial?_slot (name := Str.ofString "__next__") hit.typeIs PySem.F.slot_dict_keyiterator_next
    (wpAny_call_entry PySem.F.slot_dict_keyiterator_next hit.typeIs PySem.F.entry_dict_keyiterator_next ?_ (PySem.F.args_dict_keyiterator_next_1 _))))
  refine wpAny_bind (wpAny_pure ?_)
  refine wpAny_bind ?_
  refine wpAny_bind ?_
  refine wpAny_bind (wpAny_typeNameOfWhole_keyiter hit.typeIs (wpAny_pure ?_))
  refine wpAny_bind (wpAny_fieldsOf ho hd ?_)
  simp only [show Builtin.Dict_items.ownsTuple "dict_keyiterator" = false by decide, Bool.false_eq_true, if_false]
  show wpAny _ _ (if (Value.ref a == Value.none) = true then _ else _) _ _ s
  rw [if_neg (show ¬ ((Value.ref a == Value.none) = true) from Bool.false_ne_true)]
  refine wpAny_bind (wpAny_pure (wpAny_bind (wpAny_dictEntries hod hdd ?_)))
  rw [if_neg (by rw [hsz]; simp)]
  refine wpAny_bind (wpAny_pure (wpAny_bind (wpAny_dictEpoch hod hdd ?_)))
  rw [if_neg (by simp)]
  refine wpAny_pure ?_
  have hlt : i < kvs.length := by
    rcases Nat.lt_or_ge i kvs.length with h | h
    · exact h
    · simp [List.getElem?_eq_none h] at hx
  have hlt' : i < es.size := by rw [hsz]; exact hlt
  have hkey : (strKind pg w).is k es[i].key = true := (hp.get? (e := es[i]) (by simp [hlt']) hx).1
  obtain ⟨tk, hkk⟩ := Value.isStrOf_shape hkey
  simp only [show ¬ ((i : Int) < 0) from by omega, if_false, Int.toNat_natCast, Array.getElem?_eq_getElem hlt']
  refine wpAny_bind (wpAny_bind (wpAny_typeNameOfWhole_keyiter hit.typeIs (wpAny_pure ?_)))
  refine wpAny_bind (wpAny_isOneOf_keyiter hit.typeIs ?_)
  show wpAny _ _ (setField (.ref it) 1 (rawInt ((i : Int) + 1)) >>= _) _ _ s
  refine wpAny_bind (wpAny_setField ho hd (by simp) ?_)
  have hit' : (s.heap.update it (Obj.mapFields (·.setIfInBounds 1 (rawInt ((i : Int) + 1))))).IsKeyIter it a (i + 1) kvs.length ep :=
    ⟨_, Heap.get?_update_self _ ho (Obj.isFreed_of_fields (Obj.data_mapFields hd _)), (Obj.cls_mapFields ..).trans hc, by rw [Obj.data_mapFields hd]; simp [rawInt]⟩
  refine wpAny_bind (wpAny_holding ?_)
  refine wpAny_bind (wpAny_isOneOf_keyiter (s := { s with heap := s.heap.update it (Obj.mapFields (·.setIfInBounds 1 (rawInt ((i : Int) + 1)))) }) hit'.typeIs ?_)
  show wpAny _ _ (pure es[i].key) _ _ _
  rw [hkk]
  exact wpAny_pure (wpAny_pure ⟨_, rfl, wpAny_pure (hQ _ _ hit' (Heap.SameBut.update ..))⟩)

theorem dl_next_end {it : Addr} {i ep : Nat} {Q : Option Value → Shared → Prop} (hh : A.handled = none) (hit : s.heap.IsKeyIter it a i kvs.length ep) (x : DLe w s.heap cls od a kvs ep) (hx : kvs.length ≤ i)
    (hQ : ∀ h', Heap.ExtBut it s.heap h' → Q none { s with heap := h' }) : wpAny (model pg w) A (pyNext (.ref it)) Q E s := by
  obtain ⟨o, ho, hc, hd⟩ := id hit
  obtain ⟨nm, es, hod, hk, hp, hn⟩ := id x
  have hdd : (⟨cls, od, .dict es ep, #[]⟩ : Obj).data = .dict es ep := rfl
  have hsz : es.size = kvs.length := by rw [← hp.length]; simp
  unfold pyNext
  refine wpAny_bind (wpAny_attempt (wpAny_callSpecial?_slot (name := Str.ofString "__next__") hit.typeIs PySem.F.slot_dict_keyiterator_next
    (wpAny_call_entry PySem.F.slot_dict_keyiterator_next hit.typeIs PySem.F.entry_dict_keyiterator_next ?_ (PySem.F.args_dict_keyiterator_next_1 _))))
  refine wpAny_bind (wpAny_pure ?_)
  refine wpAny_bind ?_
  refine wpAny_bind ?_
  refine wpAny_bind (wpAny_typeNameOfWhole_keyiter hit.typeIs (wpAny_pure ?_))
  refine wpAny_bind (wpAny_fieldsOf ho hd ?_)
  simp only [show Builtin.Dict_items.ownsTuple "dict_keyiterator" = false by decide, Bool.false_eq_true, if_false]
  show wpAny _ _ (if (Value.ref a == Value.none) = true then _ else _) _ _ s
  rw [if_neg (show ¬ ((Value.ref a == Value.none) = true) from Bool.false_ne_true)]
  refine wpAny_bind (wpAny_pure (wpAny_bind (wpAny_dictEntries hod hdd ?_)))
  rw [if_neg (by rw [hsz]; simp)]
  refine wpAny_bind (wpAny_pure (wpAny_bind (wpAny_dictEpoch hod hdd ?_)))
  rw [if_neg (by simp)]
  refine wpAny_pure ?_
  have hge : es.size ≤ i := by rw [hsz]; exact hx
  simp only [show ¬ ((i : Int) < 0) from by omega, if_false, Int.toNat_natCast, Array.getElem?_eq_none hge]
  refine wpAny_bind (wpAny_bind (wpAny_typeNameOfWhole_keyiter hit.typeIs (wpAny_pure ?_)))
  show wpAny _ _ (setField (.ref it) 0 .none >>= _) _ _ s
  refine wpAny_bind (wpAny_setField ho hd (by simp) ?_)
  show wpAny _ _ (newExc (.type "StopIteration") [] >>= _) _ _ _
  refine wpAny_bind ?_
  simp only [newExc, newTuple]
  refine wpAny_bind (wpAny_newObj_type ?_ (by size_fits))
  refine wpAny_bind (m := firstArgMember _ _) (wpAny_of_eq (a := Value.none) (by first | rfl | (simp only [firstArgMember]; rfl)) ?_)
  refine wpAny_newObj_type ?_ (by size_fits)
  simp only [raiseNew]
  refine wpAny_bind (wpAny_handled ?_)
  rw [show A.in1.handled = none from hh]
  refine wpAny_bind (wpAny_pure (wpAny_throw ?_))
  refine wpAny_bind (wpAny_isInstance (T := "StopIteration") (b := true) ⟨_, Heap.get?_push_size _ rfl, rfl⟩ isSubtype_stop ?_)
  exact wpAny_pure (hQ _ (((Heap.SameBut.update ..).extBut.push _).push _))
end

end Mine
end

section
open PySem PySem.W PyProof.Rows PySem.Calls
set_option linter.unusedVariables false
namespace Mine
set_option maxRecDepth 100000

/-! ## plain contents -/
def vI : Value → Int | .int i _ => i | _ => 0
def isI : Value → Bool | .int _ _ => true | _ => false
abbrev Ct := List (Str × Int)
def FA (kvs : List (Str × Value)) (D : Ct) : Prop := (∀ kv ∈ kvs, isI kv.2 = true) ∧ kvs.map (fun kv => (kv.1, vI kv.2)) = D
def lk (D : Ct) (k : Str) : Option Int := (D.find? fun p => decide (p.1 = k)).map (·.2)
def st (D : Ct) (k : Str) (v : Int) : Ct := if D.any (fun p => decide (p.1 = k)) then D.map (fun p => if p.1 = k then (p.1, v) else p) else D ++ [(k, v)]

theorem isI_shape {v : Value} (h : isI v = true) : ∃ t, v = .int (vI v) t := by
  cases v <;> first | (cases h; done) | exact ⟨_, rfl⟩
theorem FA.nil : FA [] [] := ⟨fun _ h => (nomatch h), rfl⟩
theorem FA.keys {kvs D} (h : FA kvs D) : kvs.map (·.1) = D.map (·.1) := by rw [← h.2, List.map_map]; rfl
theorem FA.length {kvs D} (h : FA kvs D) : kvs.length = D.length := by rw [← h.2, List.length_map]
theorem FA.tail {kv kvs D} (h : FA (kv :: kvs) D) : FA kvs (D.drop 1) := ⟨fun x hx => h.1 x (.tail _ hx), by rw [← h.2]; rfl⟩
theorem FA.lookup {D : Ct} (k : Str) : ∀ {kvs}, FA kvs D → (lk D k = none ∧ valueAt kvs k = none) ∨ ∃ i t, lk D k = some i ∧ valueAt kvs k = some (.int i t) := by
  intro kvs h
  obtain ⟨h1, rfl⟩ := h
  induction kvs with
  | nil => exact .inl ⟨rfl, rfl⟩
  | cons kv r ih =>
    obtain ⟨t, ht⟩ := isI_shape (h1 kv (.head _))
    by_cases e : kv.1 = k
    · refine .inr ⟨vI kv.2, t, ?_, ?_⟩
      · simp [lk, e]
      · rw [← ht]; simp [valueAt, e]
    · have := ih (fun x hx => h1 x (.tail _ hx))
      simpa [lk, valueAt, List.find?_cons, e] using this
theorem FA.hit {kvs D k i} (h : FA kvs D) (e : lk D k = some i) : ∃ t, valueAt kvs k = some (.int i t) := by
  rcases h.lookup k with ⟨q, _⟩ | ⟨j, t, q, z⟩
  · rw [q] at e; cases e
  · rw [q] at e; cases e; exact ⟨t, z⟩
theorem FA.miss {kvs D k} (h : FA kvs D) (e : lk D k = none) : valueAt kvs k = none := by
  rcases h.lookup k with ⟨_, z⟩ | ⟨j, t, q, z⟩
  · exact z
  · rw [q] at e; cases e
theorem FA.isSome {kvs D} (h : FA kvs D) (k : Str) : (valueAt kvs k).isSome = (lk D k).isSome := by
  rcases h.lookup k with ⟨q, z⟩ | ⟨j, t, q, z⟩ <;> rw [q, z] <;> rfl
theorem FA.getD {kvs D} (h : FA kvs D) (k : Str) (d : Int) (t0 : Tok) : ∃ t, (valueAt kvs k).getD (.int d t0) = .int ((lk D k).getD d) t := by
  rcases h.lookup k with ⟨q, z⟩ | ⟨j, t, q, z⟩ <;> rw [q, z]
  · exact ⟨t0, rfl⟩
  · exact ⟨t, rfl⟩
theorem FA.at {kvs : List (Str × Value)} {D : Ct} {i : Nat} {k : Str} {v : Value} (h : FA kvs D) (e : kvs[i]? = some (k, v)) : ∃ t, v = .int (vI v) t ∧ D[i]? = some (k, vI v) := by
  obtain ⟨t, ht⟩ := isI_shape (h.1 (k, v) (List.mem_of_getElem? e))
  refine ⟨t, ht, ?_⟩
  rw [← h.2, List.getElem?_map, e]; rfl
theorem FA.put {kvs D} (h : FA kvs D) (k : Str) (i : Int) (t : Tok) : FA (stored kvs k (.int i t)) (st D k i) := by
  obtain ⟨h1, rfl⟩ := h
  have hany : ((kvs.map fun kv => (kv.1, vI kv.2)).any fun p => decide (p.1 = k)) = kvs.any fun kv => decide (kv.1 = k) := by rw [List.any_map]; rfl
  unfold stored st
  rw [hany]
  split
  · refine ⟨fun kv hkv => ?_, ?_⟩
    · obtain ⟨x, hx, rfl⟩ := List.mem_map.mp hkv
      split
      · rfl
      · exact h1 x hx
    · rw [List.map_map, List.map_map]
      refine List.map_congr_left fun x _ => ?_
      simp only [Function.comp]
      split <;> simp_all [vI]
  · refine ⟨fun kv hkv => ?_, by simp [vI]⟩
    rcases List.mem_append.mp hkv with q | q
    · exact h1 kv q
    · simp at q; subst q; rfl
theorem FA.snoc {kvs D} (h : FA kvs D) (k : Str) (i : Int) (t : Tok) : FA (kvs ++ [(k, .int i t)]) (D ++ [(k, i)]) := by
  obtain ⟨h1, rfl⟩ := h
  refine ⟨fun kv hkv => ?_, by simp [vI]⟩
  rcases List.mem_append.mp hkv with q | q
  · exact h1 kv q
  · simp at q; subst q; rfl
theorem st_len (D : Ct) (k : Str) (v : Int) : (st D k v).length ≤ D.length + 1 := by
  unfold st; split <;> simp

/-! ## the world at hand -/
structure Wd (w : World) (h : Heap) : Prop where
  K : (KH w).In h
  ns : ∃ mg mb, h.Ns mainGlobals mg ∧ h.Ns builtinsNs mb ∧ ∀ x : Str, x ≠ "__name__" → mb x = bootBuiltins x
  lim : h.NoLimit
theorem Wd.keeps {w : World} {h h' : Heap} (x : Wd w h) (k : ∀ b o, h.get? b = some o → h'.get? b = some o) : Wd w h' :=
  ⟨x.K.keeps k, let ⟨mg, mb, a, b, c⟩ := x.ns; ⟨mg, mb, a.keeps k, b.keeps k, c⟩, x.lim.keeps k⟩

theorem kh_low (w : World) : ((KH w).all fun p => Nat.ble p.1 95) = true := by kernel_rfl
theorem kh_le {w : World} {a : Addr} {o : Obj} (e : (KH w).lookup a = some o) : @LE.le Nat _ a 95 := by
  have h := kh_low w
  generalize KH w = K at e h
  induction K with
  | nil => cases e
  | cons p r ih =>
    rw [List.all_cons, Bool.and_eq_true] at h
    obtain ⟨b, x⟩ := p
    simp only [List.lookup] at e
    split at e
    · rename_i q
      rw [beq_iff_eq.mp q]
      exact Nat.le_of_ble_eq_true h.1
    · exact ih e h.2
theorem Wd.low {w : World} {h h' : Heap} (x : Wd w h) (k : ∀ b o, @LE.le Nat _ b 95 → h.get? b = some o → h'.get? b = some o) : Wd w h' :=
  ⟨fun a o e => k a o (kh_le e) (x.K a o e),
   let ⟨mg, mb, ⟨o1, e1, p1, a1, r1⟩, ⟨o2, e2, p2, a2, r2⟩, c⟩ := x.ns; ⟨mg, mb, ⟨o1, e1, p1, k _ _ (by decide) a1, r1⟩, ⟨o2, e2, p2, k _ _ (by decide) a2, r2⟩, c⟩,
   let ⟨mc, ⟨o1, e1, p1, a1, r1⟩, b⟩ := x.lim; ⟨mc, ⟨o1, e1, p1, k _ _ (by decide) a1, r1⟩, b⟩⟩
theorem kh_95 (w : World) : ((KH w).lookup 95).isSome = true := by kernel_rfl
theorem Wd.size {w : World} {h : Heap} (x : Wd w h) : @LT.lt Nat _ 95 h.objs.size := by
  obtain ⟨o, e⟩ := Option.isSome_iff_exists.mp (kh_95 w)
  exact Heap.lt_size (x.K _ _ e)

/-- a table by letters: a dict or a counter -/
def TB (w : World) (h : Heap) (a : Addr) (D : Ct) : Prop := ∃ cls od kvs, DCls h cls ∧ DL w h cls od a kvs ∧ FA kvs D ∧ ∀ dx, od = some dx → h.get? dx = some emptyDict
def Dc (w : World) (h : Heap) (a : Addr) (D : Ct) : Prop := ∃ kvs, DL w h (.type "dict") none a kvs ∧ FA kvs D
def Cr (w : World) (h : Heap) (a : Addr) (D : Ct) : Prop := ∃ dx kvs, DL w h (.ref 67) (some dx) a kvs ∧ FA kvs D ∧ h.get? dx = some emptyDict
section
variable {w : World} {h h' : Heap} {a : Addr} {D : Ct}
theorem TB.keeps (x : TB w h a D) (k : ∀ b o, h.get? b = some o → h'.get? b = some o) : TB w h' a D := let ⟨c, od, kvs, p, q, r, z⟩ := x; ⟨c, od, kvs, p.keeps k, q.keeps k, r, fun dx e => k _ _ (z dx e)⟩
theorem Dc.keeps (x : Dc w h a D) (k : ∀ b o, h.get? b = some o → h'.get? b = some o) : Dc w h' a D := let ⟨kvs, q, r⟩ := x; ⟨kvs, q.keeps k, r⟩
theorem Cr.keeps (x : Cr w h a D) (k : ∀ b o, h.get? b = some o → h'.get? b = some o) : Cr w h' a D := let ⟨dx, kvs, q, r, e⟩ := x; ⟨dx, kvs, q.keeps k, r, k _ _ e⟩
theorem Dc.tb (x : Dc w h a D) : TB w h a D := let ⟨kvs, q, r⟩ := x; ⟨_, _, kvs, dcls_dict h, q, r, fun _ e => nomatch e⟩
theorem Cr.tb (x : Cr w h a D) (W : Wd w h) : TB w h a D := let ⟨dx, kvs, q, r, z⟩ := x; ⟨_, some dx, kvs, dcls_ctr W.K, q, r, fun _ e => by cases e; exact z⟩
theorem TB.nodup (x : TB w h a D) : (D.map (·.1)).Nodup := let ⟨_, _, _, _, q, r, _⟩ := x; r.keys ▸ q.nodup
theorem Dc.nodup (x : Dc w h a D) : (D.map (·.1)).Nodup := x.tb.nodup
theorem Cr.nodup (x : Cr w h a D) : (D.map (·.1)).Nodup := let ⟨_, _, q, r, _⟩ := x; r.keys ▸ q.nodup
end

def Crd (w : World) (h : Heap) (a dx : Addr) (D : Ct) : Prop := ∃ kvs, DL w h (.ref 67) (some dx) a kvs ∧ FA kvs D ∧ h.get? dx = some emptyDict
theorem Crd.cr {w : World} {h : Heap} {a dx : Addr} {D : Ct} (x : Crd w h a dx D) : Cr w h a D := let ⟨kvs, r⟩ := x; ⟨dx, kvs, r⟩
theorem Cr.crd {w : World} {h : Heap} {a : Addr} {D : Ct} (x : Cr w h a D) : ∃ dx, Crd w h a dx D := let ⟨dx, kvs, r⟩ := x; ⟨dx, kvs, r⟩
theorem Crd.at {w : World} {h h' : Heap} {a dx : Addr} {D : Ct} (x : Crd w h a dx D) (k : ∀ b o, b = a ∨ b = dx → h.get? b = some o → h'.get? b = some o) : Crd w h' a dx D :=
  let ⟨kvs, q, r, e⟩ := x; ⟨kvs, q.at' fun o => k a o (.inl rfl), r, k _ _ (.inr rfl) e⟩
theorem Crd.lt {w : World} {h : Heap} {a dx : Addr} {D : Ct} (x : Crd w h a dx D) : @LT.lt Nat _ a h.objs.size ∧ @LT.lt Nat _ dx h.objs.size ∧ a ≠ dx := by
  obtain ⟨kvs, q, r, e⟩ := x
  refine ⟨q.lt, Heap.lt_size e, fun z => ?_⟩
  obtain ⟨ep, n, es, ho, _⟩ := q
  subst z
  rw [ho] at e
  cases e
theorem take_st {D : Ct} (hn : (D.map (·.1)).Nodup) {i : Nat} {k : Str} {v : Int} (e : D[i]? = some (k, v)) : st (D.take i) k v = D.take (i + 1) := by
  have hlt : i < D.length := (List.getElem?_eq_some_iff.mp e).1
  have hnm : k ∉ (D.take i).map (·.1) := fun hm => by
    obtain ⟨p, hp, rfl⟩ := List.mem_map.mp hm
    obtain ⟨j, hj⟩ := List.getElem?_of_mem hp
    have hji : j < i := by have := (List.getElem?_eq_some_iff.mp hj).1; rw [List.length_take] at this; omega
    rw [List.getElem?_take_of_lt hji] at hj
    have h1 : (D.map (·.1))[j]? = some p.1 := by rw [List.getElem?_map, hj]; rfl
    have h2 : (D.map (·.1))[i]? = some p.1 := by rw [List.getElem?_map, e]; rfl
    have hji' := (List.getElem?_inj (by rw [List.length_map]; omega) hn).mp (h1.trans h2.symm)
    omega
  unfold st
  rw [if_neg]
  · rw [List.take_add_one, e]; rfl
  · intro hany
    obtain ⟨kv, hm, he⟩ := List.any_eq_true.mp hany
    exact hnm (List.mem_map.mpr ⟨kv, hm, of_decide_eq_true he⟩)
theorem lk_at {D : Ct} (hn : (D.map (·.1)).Nodup) {i : Nat} {k : Str} {v : Int} (e : D[i]? = some (k, v)) : lk D k = some v := by
  induction D generalizing i with
  | nil => cases e
  | cons p r ih =>
    rw [List.map_cons, List.nodup_cons] at hn
    cases i with
    | zero => cases e; simp [lk]
    | succ j =>
      rw [List.getElem?_cons_succ] at e
      have hne : ¬ p.1 = k := fun z => hn.1 (List.mem_map.mpr ⟨_, List.mem_of_getElem? e, z.symm⟩)
      have := ih hn.2 e
      simpa [lk, List.find?_cons, hne] using this
theorem lk_mem {D : Ct} {k : Str} (h : k ∈ D.map (·.1)) : ∃ v, lk D k = some v := by
  induction D with
  | nil => cases h
  | cons p r ih =>
    by_cases e : p.1 = k
    · exact ⟨p.2, by simp [lk, e]⟩
    · rw [List.map_cons] at h
      obtain ⟨v, hv⟩ := ih (by rcases List.mem_cons.mp h with q | q; exact absurd q.symm e; exact q)
      exact ⟨v, by simpa [lk, List.find?_cons, e] using hv⟩
theorem lk_none {D : Ct} {k : Str} (h : k ∉ D.map (·.1)) : lk D k = none := by
  induction D with
  | nil => rfl
  | cons p r ih =>
    rw [List.map_cons] at h
    have e : ¬ p.1 = k := fun z => h (by rw [← z]; exact .head _)
    have := ih fun z => h (.tail _ z)
    simpa [lk, List.find?_cons, e] using this

def TT (w : World) (h : Heap) (a : Addr) (D : Ct) : Prop := Cr w h a D ∨ Dc w h a D
theorem TT.tb {w : World} {h : Heap} {a : Addr} {D : Ct} (x : TT w h a D) (W : Wd w h) : TB w h a D := x.elim (fun y => y.tb W) fun y => y.tb
theorem TT.keeps {w : World} {h h' : Heap} {a : Addr} {D : Ct} (x : TT w h a D) (k : ∀ b o, h.get? b = some o → h'.get? b = some o) : TT w h' a D := x.elim (fun y => .inl (y.keeps k)) fun y => .inr (y.keeps k)
theorem TT.nodup {w : World} {h : Heap} {a : Addr} {D : Ct} (x : TT w h a D) : (D.map (·.1)).Nodup := x.elim Cr.nodup Dc.nodup
theorem Cr.gt {w : World} {h : Heap} {a : Addr} {D : Ct} (x : Cr w h a D) : @LT.lt Nat _ 95 a := let ⟨_, _, q, _⟩ := x; q.gt
theorem Dc.gt {w : World} {h : Heap} {a : Addr} {D : Ct} (x : Dc w h a D) : @LT.lt Nat _ 95 a := let ⟨_, q, _⟩ := x; q.gt
theorem TT.but {w : World} {h h' : Heap} {a x : Addr} {D D' : Ct} (t : TT w h a D) (hx : Cr w h x D') (ne : a ≠ x) (k : ∀ b o, b ≠ x → h.get? b = some o → h'.get? b = some o) : TT w h' a D := by
  obtain ⟨dx, kvs, ⟨ep, n, es, ho, _⟩, _, _⟩ := hx
  rcases t with ⟨dy, kv, q, r, e⟩ | ⟨kv, q, r⟩
  · refine .inl ⟨dy, kv, q.at' fun o => k a o ne, r, k _ _ (fun z => ?_) e⟩
    subst z
    rw [ho] at e
    cases e
  · exact .inr ⟨kv, q.at' fun o => k a o ne, r⟩

/-! ## room -/
def Rm (n : Nat) (A : Around) : Prop := A.handled = none ∧ A.depth + n ≤ 1000 ∧ A.units + 10 * n ≤ 9900
theorem Rm.le {n m : Nat} {A : Around} (h : Rm n A) (e : m ≤ n) : Rm m A := ⟨h.1, by have := h.2.1; omega, by have := h.2.2; omega⟩
theorem Rm.in1 {n : Nat} {A : Around} (h : Rm (n + 1) A) : Rm n A.in1 := ⟨h.1, by have := h.2.1; simp; omega, by have := h.2.2; simp; omega⟩
theorem Rm.deeper {n : Nat} {A : Around} {env : Env} (h : Rm (n + 1) A) : Rm n (A.deeper env) := ⟨h.1, by have := h.2.1; show A.depth + 1 + n ≤ 1000; omega, by have := h.2.2; show A.units + 3 + 10 * n ≤ 9900; omega⟩
theorem Rm.units {n : Nat} {A : Around} (h : Rm (n + 1) A) : A.units < cLine := by have := h.2.2; show A.units < 9900; omega
theorem Rm.depth {n : Nat} {A : Around} (h : Rm (n + 1) A) : A.depth < recursionLimit := by have := h.2.1; show A.depth < 1000; omega

abbrev Up (h h' : Heap) : Prop := ∀ b o, h.get? b = some o → h'.get? b = some o
theorem keeps_refl (s : Shared) : Keeps s s := ⟨s.heap, s.toks, rfl, fun _ _ e => e⟩
theorem keeps_up {s s' : Shared} (h : Keeps s s') : Up s.heap s'.heap := by obtain ⟨h', tk, rfl, k⟩ := h; exact k
theorem keeps_trans {s s' s'' : Shared} (h : Keeps s s') (h' : Keeps s' s'') : Keeps s s'' := by
  obtain ⟨h₁, t₁, rfl, k₁⟩ := h
  obtain ⟨h₂, t₂, rfl, k₂⟩ := h'
  exact ⟨h₂, t₂, rfl, fun b o e => k₂ b o (k₁ b o e)⟩
theorem keeps_tok (s : Shared) (t : Nat) : Keeps s { s with toks := t } := ⟨s.heap, t, rfl, fun _ _ e => e⟩
theorem keeps_mk {s : Shared} {h' : Heap} {t : Nat} (k : Up s.heap h') : Keeps s { s with heap := h', toks := t } := ⟨h', t, rfl, k⟩

/-! ## pure expressions: the heap only grows -/
abbrev IntV (i : Int) (v : Value) : Prop := ∃ t, v = .int i t
def PE (w : World) (env : Env) (h : Heap) (e : Expr) (P : Value → Prop) : Prop :=
  ∀ (A : Around) (E : Value → Shared → Prop) (Q : Value → Shared → Prop) (s : Shared), Rm 20 A → Up h s.heap → (∀ v s', Keeps s s' → P v → Q v s') → wpAny (model pg w) A (eval e env) Q E s
def PB (w : World) (env : Env) (h : Heap) (e : Expr) (b : Bool) : Prop :=
  ∀ (A : Around) (E : Value → Shared → Prop) (Q : Bool → Shared → Prop) (s : Shared), Rm 20 A → Up h s.heap → (∀ s', Keeps s s' → Q b s') → wpAny (model pg w) A (isTrue e env (eval e env)) Q E s
abbrev Nm (env : Env) (h : Heap) (n : Str) (v : Value) : Prop := ∀ M pos, Looks M h (eval (.Name n pos) env) v
section
variable {w : World} {env : Env} {h h' : Heap} {e l r : Expr} {P P' : Value → Prop} {b : Bool} {n : Str} {v : Value} {pos : Pos}
theorem PE.keeps (x : PE w env h e P) (k : Up h h') : PE w env h' e P := fun A E Q s rm up q => x A E Q s rm (fun b o e => up b o (k b o e)) q
theorem PB.keeps (x : PB w env h e b) (k : Up h h') : PB w env h' e b := fun A E Q s rm up q => x A E Q s rm (fun b o e => up b o (k b o e)) q
theorem Nm.keeps (x : Nm env h n v) (k : Up h h') : Nm env h' n v := fun M pos => (x M pos).keeps k
theorem PE.mono (x : PE w env h e P) (k : ∀ v, P v → P' v) : PE w env h e P' := fun A E Q s rm up q => x A E Q s rm up fun v s' ks p => q v s' ks (k v p)
theorem pe_name (x : Nm env h n v) : PE w env h (.Name n pos) (· = v) := fun A E Q s rm up q => (x _ _) A Q E s up (q v s (keeps_refl s) rfl)
theorem pe_int {i : Int} {k : Nat} : PE w env h (.Constant (.int i) k pos) (IntV i) := fun A E Q s rm up q => wpAny_Constant_int (q _ _ (keeps_tok s _) ⟨_, rfl⟩)

theorem nm_local {m : Str → Option Value} (hk : env.scope.kind = .function) (hl : env.kindOf n = some .local) (hns : h.Ns env.locals m) (hv : m n = some v) (hd : (n == ("__debug__" : Str)) = false := by decide) : Nm env h n v :=
  fun M pos A Q E s up q => wpAny_Name (wpAny_loadName_local hk hl (hns.keeps up) hv q) hd
theorem nm_cell {c : Addr} (hk : env.scope.kind = .function) (hl : env.kindOf n = some .cell) (hc : env.cells.lookup n = some c) (hv : h.IsCell c (some v)) (hd : (n == ("__debug__" : Str)) = false := by decide) : Nm env h n v :=
  fun M pos A Q E s up q => wpAny_Name (wpAny_loadName_cell hk hl hc (let ⟨o, ho, r⟩ := hv; ⟨o, up _ _ ho, r⟩) q) hd
theorem nm_global (W : Wd w h) (hk : env.scope.kind = .function) (hl : env.kindOf n = some .globalImplicit) (hg : env.globals = mainGlobals) (e : nsIn (KH w) mainGlobals n = some (some v)) (hd : (n == ("__debug__" : Str)) = false := by decide) : Nm env h n v :=
  fun M pos A Q E s up q => by
    obtain ⟨mg, mb, g, b, _⟩ := W.ns
    exact Name_function_global hk hl (loadGlobal_global (hg ▸ g.keeps up) (mg_of W.K g e) q) hd
theorem nm_builtin (W : Wd w h) (hk : env.scope.kind = .function) (hl : env.kindOf n = some .globalImplicit) (hg : env.globals = mainGlobals) (hb : env.builtins = builtinsNs) (e : nsIn (KH w) mainGlobals n = some none) (hv : bootBuiltins n = some v) (hn : n ≠ "__name__")
    (hd : (n == ("__debug__" : Str)) = false := by decide) : Nm env h n v :=
  fun M pos A Q E s up q => by
    obtain ⟨mg, mb, g, b, z⟩ := W.ns
    exact Name_function_global hk hl (loadGlobal_builtin (hg ▸ g.keeps up) (mg_none_of W.K g e) (hb ▸ b.keeps up) ((z n hn).trans hv) q) hd

/-! subscripts of tables -/
theorem sub_ref {value : Expr} {x : Str} {p pos : Pos} {a : Addr} {id : String} {A : Around} {E : Value → Shared → Prop} {Q : Value → Shared → Prop} {s : Shared} {M : Model}
    (h : wpAny M A (eval value env) (fun o s₁ => wpAny M A (eval (.Name x p) env) (fun i s₂ => ∃ a id, o = .ref a ∧ Looks M s₂.heap (specialOf (.ref a) "__getitem__") (some (.builtin id)) ∧ wpAny M A (getItem (.ref a) i) Q E s₂) E s₁) E s)
    (ht : ∀ o r, letTemporaryGo value o r = pure () := by intro _ _; rfl) : wpAny M A (eval (.Subscript value (.Name x p) pos) env) Q E s := by
  rw [arm_eval_Subscript]
  refine wpAny_bind (wpAny_mono h (fun o s₁ h₁ => wpAny_bind (wpAny_holding (wpAny_mono h₁ (fun i s₂ h₂ => wpAny_bind (wpAny_standAt ?_)) fun _ _ x => x))) fun _ _ x => x)
  obtain ⟨a, id, rfl, l, hg⟩ := h₂
  refine wpAny_bind ?_
  unfold getitemInPython
  refine wpAny_bind (l.here (wpAny_pure ?_))
  show wpAny _ _ (operate [.ref a, i] (getItem (.ref a) i) >>= _) _ _ _
  exact wpAny_bind (wpAny_operating (wpAny_mono hg (fun r s₃ h₃ => wpAny_bind (wpAny_of_eq (ht _ r) (wpAny_pure h₃))) fun _ _ x => x))

theorem pe_sub {d kn : Str} {p1 p2 : Pos} {a : Addr} {k : Str} {tk : Tok} {D : Ct} {i : Int} (nd : Nm env h d (.ref a)) (nk : Nm env h kn (.str k tk)) (t : TB w h a D) (e : lk D k = some i) :
    PE w env h (.Subscript (.Name d p1) (.Name kn p2) pos) (IntV i) := fun A E Q s rm up q => by
  refine sub_ref (a := a) (id := "dict.__getitem__") ?_
  refine (nd _ _) A _ E s up ?_
  refine (nk _ _) A _ E s up ?_
  obtain ⟨cls, od, kvs, Dc, dl, fa, _⟩ := t.keeps up
  obtain ⟨t, hv⟩ := fa.hit e
  exact ⟨a, _, rfl, dl.special (Dc.fgets _), dl_getItem dl Dc (strKind_is _ _ _ _) hv (q _ _ (keeps_tok s _) ⟨t, rfl⟩)⟩
end

end Mine
end

section
open PySem PySem.W PyProof.Rows PySem.Calls
set_option linter.unusedVariables false
namespace Mine
set_option maxRecDepth 100000

section
variable {M : Model} {A : Around} {E : Value → Shared → Prop} {s : Shared}
theorem call_attr {o : Expr} {name : Str} {apos pos : Pos} {args : List Expr} {env : Env} {Q : Value → Shared → Prop}
    (h : wpAny M A (eval o env) (fun ov s₁ => wpAny M A (getMethod ov name (do return (← importBound o env).getD true)) (fun fs s₂ => wpAny M A (callWith pos fs.1 fs.2 (backTo pos (starEach args env)) []) Q E s₂) E s₁) E s)
    (hbase : attributeBase o name env (eval o env) = eval o env := by rfl)
    (hform : methodCallForm (args.length + ([] : List Keyword).length) (backTo pos (starEach args env)) [] = true := by rfl) (hline : (apos.endLine == pos.line) = true := by rfl) :
    wpAny M A (eval (.Call (.Attribute o name apos) args [] pos) env) Q E s := by
  rw [arm_eval_Call, hbase]
  refine wpAny_bind (wpAny_mono h (fun ov s₁ h₁ => ?_) fun _ _ e => e)
  refine wpAny_bind (wpAny_standAt ?_)
  show wpAny M A (methodCall o name apos pos env ov (args.length + ([] : List Keyword).length) (backTo pos (starEach args env)) []) Q E s₁
  unfold methodCall
  rw [hform]
  refine wpAny_bind (wpAny_holding (wpAny_mono h₁ (fun fs s₂ h₂ => ?_) fun _ _ e => e))
  have hpos : methodCallPos true o env apos pos = pure pos := by unfold methodCallPos; simp [hline]
  rw [hpos]
  exact wpAny_bind (wpAny_pure h₂)

theorem get_method {w : World} {cls : Value} {od : Option Addr} {a : Addr} {kvs : List (Str × Value)} {pl : Sem Bool} {Q : Value × List Value → Shared → Prop} (x : DL w s.heap cls od a kvs) (D : DCls s.heap cls)
    (hod : ∀ dx, od = some dx → s.heap.get? dx = some emptyDict) (h : Q (.builtin "dict.get", [.ref a]) s) : wpAny M A (getMethod (.ref a) "get" pl) Q E s := by
  obtain ⟨g, hg, hcan⟩ := D.ga
  unfold getMethod
  refine wpAny_bind ((x.special (hg _)).here ?_)
  show wpAny M A (if (Manifest.canonical g != "object.__getattribute__") = true then _ else _) Q E s
  rw [hcan, if_neg Bool.false_ne_true]
  refine wpAny_bind ((x.special (D.gattr _)).here ?_)
  refine wpAny_bind ((x.special (D.fget _)).here ?_)
  refine wpAny_bind (wpAny_of_eq PySem.F.type_dict_get ?_)
  obtain ⟨ep, nm, es, ho, _⟩ := id x
  refine wpAny_bind (wpAny_loadPart ho ?_)
  cases od with
  | none => exact wpAny_bind (wpAny_rule (wpAny_pure h))
  | some dx =>
    refine wpAny_bind (wpAny_bind (wpAny_loadPart (hod dx rfl) ?_))
    rw [nsLook_of (r := none) rfl]
    refine wpAny_pure ?_
    exact wpAny_bind (wpAny_rule (wpAny_pure h))
end

section
variable {w : World} {env : Env} {h h' : Heap} {e l r : Expr} {P P' : Value → Prop} {b : Bool} {n : Str} {v : Value} {pos : Pos}

theorem pe_add {i j : Int} (x : PE w env h l (IntV i)) (y : PE w env h r (IntV j)) : PE w env h (.BinOp l .Add r pos) (IntV (i + j)) := fun A E Q s rm up q => by
  refine wpAny_BinOp (x A _ _ s rm up fun v s' ks ⟨t, ht⟩ => ?_)
  subst ht
  refine y A _ _ s' rm (fun b o e => keeps_up ks _ _ (up _ _ e)) fun v s'' ks' ⟨u, hu⟩ => ?_
  subst hu
  exact add_int (q _ _ (keeps_trans ks (keeps_trans ks' (keeps_tok _ _))) ⟨_, rfl⟩)
theorem pe_subt {i j : Int} (x : PE w env h l (IntV i)) (y : PE w env h r (IntV j)) : PE w env h (.BinOp l .Sub r pos) (IntV (i - j)) := fun A E Q s rm up q => by
  refine wpAny_BinOp (x A _ _ s rm up fun v s' ks ⟨t, ht⟩ => ?_)
  subst ht
  refine y A _ _ s' rm (fun b o e => keeps_up ks _ _ (up _ _ e)) fun v s'' ks' ⟨u, hu⟩ => ?_
  subst hu
  exact sub_int (q _ _ (keeps_trans ks (keeps_trans ks' (keeps_tok _ _))) ⟨_, rfl⟩)

theorem call2 {a b : Expr} {id : String} {A : Around} {E : Value → Shared → Prop} {Q : Value → Shared → Prop} {s : Shared} {fn : Str} {fp : Pos} {M : Model}
    (hf : Looks M s.heap (eval (.Name fn fp) env) (.builtin id))
    (h : wpAny M A (eval a env) (fun x s₁ => wpAny M A (eval b env) (fun y s₂ => wpAny M A (call (.builtin id) [x, y]) Q E s₂) E s₁) E s)
    (ha : starEach [a, b] env = [(false, eval a env), (false, eval b env)] := by rfl) :
    wpAny M A (eval (.Call (.Name fn fp) [a, b] [] pos) env) Q E s := by
  refine wpAny_Call_Name_kw (hf.here ?_)
  rw [ha]
  refine callWith_builtin rfl ?_
  refine evalArgs_plain (spliced_cons (wpAny_mono h (fun x s₁ h₁ => spliced_cons (wpAny_mono h₁ (fun y s₂ h₂ => spliced_nil h₂) fun _ _ e => e)) fun _ _ e => e))
theorem call1 {a : Expr} {id : String} {A : Around} {E : Value → Shared → Prop} {Q : Value → Shared → Prop} {s : Shared} {fn : Str} {fp : Pos} {M : Model}
    (hf : Looks M s.heap (eval (.Name fn fp) env) (.builtin id))
    (h : wpAny M A (eval a env) (fun x s₁ => wpAny M A (call (.builtin id) [x]) Q E s₁) E s)
    (ha : starEach [a] env = [(false, eval a env)] := by rfl) :
    wpAny M A (eval (.Call (.Name fn fp) [a] [] pos) env) Q E s := by
  refine wpAny_Call_Name_kw (hf.here ?_)
  rw [ha]
  refine callWith_builtin rfl ?_
  refine evalArgs_plain (spliced_cons (wpAny_mono h (fun x s₁ h₁ => spliced_nil h₁) fun _ _ e => e))

theorem pe_min {i j : Int} {fn : Str} {fp : Pos} (hf : Nm env h fn (.builtin "min")) (x : PE w env h l (IntV i)) (y : PE w env h r (IntV j))
    (ha : starEach [l, r] env = [(false, eval l env), (false, eval r env)] := by rfl) : PE w env h (.Call (.Name fn fp) [l, r] [] pos) (IntV (min i j)) := fun A E Q s rm up q => by
  refine call2 ((hf _ _).keeps up) ?_ ha
  refine x A _ _ s rm up fun v s' ks ⟨t, ht⟩ => ?_
  subst ht
  refine y A _ _ s' rm (fun b o e => keeps_up ks _ _ (up _ _ e)) fun v s'' ks' ⟨u, hu⟩ => ?_
  subst hu
  refine min_two_ints rm.1 fun h' tk k => q _ _ (keeps_trans ks (keeps_trans ks' (keeps_mk k))) ?_
  by_cases c : j < i
  · rw [if_pos c, show min i j = j by omega]; exact ⟨_, rfl⟩
  · rw [if_neg c, show min i j = i by omega]; exact ⟨_, rfl⟩
theorem pe_max {i j : Int} {fn : Str} {fp : Pos} (hf : Nm env h fn (.builtin "max")) (x : PE w env h l (IntV i)) (y : PE w env h r (IntV j))
    (ha : starEach [l, r] env = [(false, eval l env), (false, eval r env)] := by rfl) : PE w env h (.Call (.Name fn fp) [l, r] [] pos) (IntV (max i j)) := fun A E Q s rm up q => by
  refine call2 ((hf _ _).keeps up) ?_ ha
  refine x A _ _ s rm up fun v s' ks ⟨t, ht⟩ => ?_
  subst ht
  refine y A _ _ s' rm (fun b o e => keeps_up ks _ _ (up _ _ e)) fun v s'' ks' ⟨u, hu⟩ => ?_
  subst hu
  refine max_two_ints rm.1 fun h' tk k => q _ _ (keeps_trans ks (keeps_trans ks' (keeps_mk k))) ?_
  by_cases c : j > i
  · rw [if_pos c, show max i j = j by omega]; exact ⟨_, rfl⟩
  · rw [if_neg c, show max i j = i by omega]; exact ⟨_, rfl⟩

/-! tests -/
theorem pb_gt {i j : Int} (x : PE w env h l (IntV i)) (y : PE w env h r (IntV j)) (hm : behindInMarks .Gt r = false := by with_unfolding_all rfl) : PB w env h (.Compare l [.Gt] [r] pos) (decide (j < i)) := fun A E Q s rm up q => by
  refine wpAny_isTrue_Compare1 (x A _ _ s rm up fun v s' ks ⟨t, ht⟩ => ?_) hm
  subst ht
  refine y A _ _ s' rm (fun b o e => keeps_up ks _ _ (up _ _ e)) fun v s'' ks' ⟨u, hu⟩ => ?_
  subst hu
  exact gt_int (wpAny_truthy_bool (q _ (keeps_trans ks ks')))
theorem pb_eq {i j : Int} (x : PE w env h l (IntV i)) (y : PE w env h r (IntV j)) (hm : behindInMarks .Eq r = false := by with_unfolding_all rfl) : PB w env h (.Compare l [.Eq] [r] pos) (i == j) := fun A E Q s rm up q => by
  refine wpAny_isTrue_Compare1 (x A _ _ s rm up fun v s' ks ⟨t, ht⟩ => ?_) hm
  subst ht
  refine y A _ _ s' rm (fun b o e => keeps_up ks _ _ (up _ _ e)) fun v s'' ks' ⟨u, hu⟩ => ?_
  subst hu
  exact eq_int (wpAny_truthy_bool (q _ (keeps_trans ks ks')))
theorem pb_lt {i j : Int} (x : PE w env h l (IntV i)) (y : PE w env h r (IntV j)) (hm : behindInMarks .Lt r = false := by with_unfolding_all rfl) : PB w env h (.Compare l [.Lt] [r] pos) (decide (i < j)) := fun A E Q s rm up q => by
  refine wpAny_isTrue_Compare1 (x A _ _ s rm up fun v s' ks ⟨t, ht⟩ => ?_) hm
  subst ht
  refine y A _ _ s' rm (fun b o e => keeps_up ks _ _ (up _ _ e)) fun v s'' ks' ⟨u, hu⟩ => ?_
  subst hu
  exact lt_int (wpAny_truthy_bool (q _ (keeps_trans ks ks')))
theorem pb_in {kn d : Str} {p1 p2 : Pos} {a : Addr} {k : Str} {tk : Tok} {D : Ct} (nk : Nm env h kn (.str k tk)) (nd : Nm env h d (.ref a)) (t : TB w h a D)
    (hm : behindInMarks .In (.Name d p2) = false := by with_unfolding_all rfl) : PB w env h (.Compare (.Name kn p1) [.In] [.Name d p2] pos) (lk D k).isSome := fun A E Q s rm up q => by
  refine wpAny_isTrue_Compare1 ((nk _ _) A _ E s up ((nd _ _) A _ E s up ?_)) hm
  obtain ⟨cls, od, kvs, Dc, dl, fa, _⟩ := t.keeps up
  refine dl_in dl Dc (strKind_is _ _ _ _) (wpAny_truthy_bool ?_)
  rw [fa.isSome k]
  exact q _ (keeps_tok _ _)
theorem pb_notin {kn d : Str} {p1 p2 : Pos} {a : Addr} {k : Str} {tk : Tok} {D : Ct} (nk : Nm env h kn (.str k tk)) (nd : Nm env h d (.ref a)) (t : TB w h a D)
    (hm : behindInMarks .NotIn (.Name d p2) = false := by with_unfolding_all rfl) : PB w env h (.Compare (.Name kn p1) [.NotIn] [.Name d p2] pos) (!(lk D k).isSome) := fun A E Q s rm up q => by
  refine wpAny_isTrue_Compare1 ((nk _ _) A _ E s up ((nd _ _) A _ E s up ?_)) hm
  obtain ⟨cls, od, kvs, Dc, dl, fa, _⟩ := t.keeps up
  refine dl_notin dl Dc (strKind_is _ _ _ _) (wpAny_truthy_bool ?_)
  rw [fa.isSome k]
  exact q _ (keeps_tok _ _)
theorem pb_and {b1 b2 : Bool} (x : PB w env h l b1) (y : b1 = true → PB w env h r b2) : PB w env h (.BoolOp .And [l, r] pos) (b1 && b2) := fun A E Q s rm up q => by
  rw [arm_isTrue_BoolOp, arm_allTrue_cons]
  refine wpAny_bind (x A _ _ s rm up fun s' ks => ?_)
  cases b1 with
  | false => exact wpAny_pure (q _ ks)
  | true =>
    show wpAny _ _ (allTrue .And [r] env) Q E s'
    rw [arm_allTrue_cons]
    refine wpAny_bind (y rfl A _ _ s' rm (fun b o e => keeps_up ks _ _ (up _ _ e)) fun s'' ks' => ?_)
    cases b2 with
    | false => exact wpAny_pure (q _ (keeps_trans ks ks'))
    | true => exact wpAny_pure (q _ (keeps_trans ks ks'))

theorem pe_get {d kn : Str} {p1 p2 p3 ap : Pos} {c : Nat} {z : Int} {a : Addr} {k : Str} {tk : Tok} {D : Ct} (nd : Nm env h d (.ref a)) (nk : Nm env h kn (.str k tk)) (t : TB w h a D)
    (hline : (ap.endLine == pos.line) = true := by rfl) :
    PE w env h (.Call (.Attribute (.Name d p1) "get" ap) [.Name kn p2, .Constant (.int z) c p3] [] pos) (IntV ((lk D k).getD z)) := fun A E Q s rm up q => by
  refine call_attr (hline := hline) ((nd _ _) A _ E s up ?_)
  obtain ⟨cls, od, kvs, Dc, dl, fa, hod⟩ := t.keeps up
  refine get_method dl Dc hod ?_
  refine callWith_builtin rfl (evalArgs_plain (spliced_cons ((nk _ _) A _ E s up (spliced_cons (wpAny_Constant_int (k := c) (pos := p3) (spliced_nil ?_))))))
  obtain ⟨t', ht'⟩ := fa.getD k z s.toks
  refine dl_get2 (s := { s with toks := s.toks + 1 }) dl Dc (strKind_is _ _ _ _) ?_
  rw [ht']
  exact q _ _ (keeps_tok s _) ⟨_, rfl⟩
end
end Mine
end

section
open PySem PySem.W PyProof.Rows PySem.Calls
set_option linter.unusedVariables false
namespace Mine
set_option maxRecDepth 100000

theorem dl_walks {w : World} {A : Around} (hh : A.handled = none) {cls : Value} {od : Option Addr} {a I : Addr} {kvs : List (Str × Value)} {ep : Nat} (hne : a ≠ I) :
    Walks pg w A I [I, a] [I] kvs.length (fun i v => ∃ k x tk, kvs[i]? = some (k, x) ∧ v = .str k tk) (fun i h => h.IsKeyIter I a i kvs.length ep ∧ DLe w h cls od a kvs ep) where
  sub := fun b hb => by simp at hb; simp [hb]
  frame := fun i h h' hs hk => ⟨let ⟨o, ho, r⟩ := hs.1; ⟨o, hk I (by simp) o ho, r⟩, hs.2.at' fun o e => hk a (by simp) o e⟩
  item := fun i s Q E hi hs hQ => by
    obtain ⟨⟨k, x⟩, hx⟩ : ∃ p, kvs[i]? = some p := ⟨kvs[i], List.getElem?_eq_getElem hi⟩
    refine dl_next (k := k) hs.1 hs.2 hx fun tk h' hit hsb => hQ _ h' s.toks ⟨k, x, tk, hx, rfl⟩ ⟨hit, hs.2.at' fun o e => (hsb.2 a hne).trans e⟩ fun b o hb e => (hsb.2 b (by simpa using hb)).trans e
  done := fun s Q E hs hQ => dl_next_end hh hs.1 hs.2 (Nat.le_refl _) fun h' hx => hQ h' s.toks fun b o hb e => hx b o (by simpa using hb) e
  self := fun i s Q E hs hQ => wpAny_pyIter_keyiter hs.1 hQ

theorem neA {a b : Addr} (h : ¬ @Eq Nat a b) : a ≠ b := h
theorem nin2 {a b c : Addr} (h : ¬ @Eq Nat a b) (h' : ¬ @Eq Nat a c) : a ∉ [b, c] := fun x => by
  rcases List.mem_cons.mp x with e | x
  · exact h e
  · rcases List.mem_cons.mp x with e | x
    · exact h' e
    · cases x
theorem nin1 {a b : Addr} (h : ¬ @Eq Nat a b) : a ∉ [b] := fun x => by
  rcases List.mem_cons.mp x with e | x
  · exact h e
  · cases x

def PT (w : World) (env : Env) (h : Heap) (ifs : List Expr) (b : Bool) : Prop :=
  ∀ (A : Around) (E : Value → Shared → Prop) (Q : Bool → Shared → Prop) (s : Shared), Rm 20 A → Up h s.heap → (∀ s', Keeps s s' → Q b s') →
    wpAny (model pg w) A (forIn ifs true fun c r => if r = true then do let ok ← isTrue c env (eval c env); pure (ForInStep.yield ok) else pure (ForInStep.yield r)) Q E s
theorem pt_nil {w : World} {env : Env} {h : Heap} : PT w env h [] true := fun A E Q s rm up q => by rw [List.forIn_nil]; exact wpAny_pure (q s (keeps_refl s))
theorem pt_one {w : World} {env : Env} {h : Heap} {c : Expr} {b : Bool} (x : PB w env h c b) : PT w env h [c] b := fun A E Q s rm up q => by
  rw [List.forIn_cons]
  refine wpAny_bind ?_
  rw [if_pos rfl]
  refine wpAny_bind (x A _ _ s rm up fun s' ks => wpAny_pure ?_)
  show wpAny _ _ (forIn [] b _) Q E s'
  rw [List.forIn_nil]
  exact wpAny_pure (q s' ks)

theorem filter_map_keys {α : Type} (D : List (Str × α)) (p : Str → Bool) : (D.map (·.1)).filter p = (D.filter fun kv => p kv.1).map (·.1) := by
  rw [List.filter_map]; rfl

theorem stored_new {kvs : List (Str × Value)} {k : Str} {v : Value} (h : k ∉ kvs.map (·.1)) : stored kvs k v = kvs ++ [(k, v)] := by
  unfold stored
  rw [if_neg]
  intro hany
  obtain ⟨kv, hm, he⟩ := List.any_eq_true.mp hany
  exact h (List.mem_map.mpr ⟨kv, hm, of_decide_eq_true he⟩)

def pv (p : Str → Bool) : Value → Bool | .str k _ => p k | _ => false
def kyv : Value → Str | .str k _ => k | _ => default
/-- what a dict comprehension has stored -/
theorem storedAll_is {f : Str → Int} : ∀ {l : List Value} {kvs : List (Str × Value)},
    StoredAll (fun v k => ∃ tk, v = .str k tk) (fun v y => ∃ k tk, v = .str k tk ∧ IntV (f k) y) l kvs → ∀ ks : List Str, ks.Nodup → l.length = ks.length → (∀ (i : Nat) v, l[i]? = some v → ∃ k tk, ks[i]? = some k ∧ v = .str k tk) → FA kvs (ks.map fun k => (k, f k)) := by
  intro l kvs h
  induction h with
  | nil => intro ks _ hl _; cases ks with | nil => exact FA.nil | cons _ _ => cases hl
  | @snoc l kvs v k y hs hk hy ih =>
    intro ks hn hl hv
    obtain ⟨tk, rfl⟩ := hk
    obtain ⟨k', tk', e, t, rfl⟩ := hy
    cases e
    rw [List.length_append, List.length_singleton] at hl
    obtain ⟨ks', k₁, rfl⟩ : ∃ ks' k₁, ks = ks' ++ [k₁] := by
      refine ⟨ks.dropLast, ks.getLast (by intro e; subst e; simp at hl), ?_⟩
      exact (List.dropLast_concat_getLast _).symm
    rw [List.length_append, List.length_singleton] at hl
    have hl' : l.length = ks'.length := by omega
    have e1 := hv l.length (.str k tk) (by simp)
    obtain ⟨k₂, tk₂, hk₂, e2⟩ := e1
    rw [hl'] at hk₂
    simp at hk₂
    subst hk₂
    cases e2
    have hn' := List.nodup_append.mp hn
    have ih' := ih ks' hn'.1 hl' (fun i v hi => by
      have hlt : i < l.length := (List.getElem?_eq_some_iff.mp hi).1
      obtain ⟨k₃, tk₃, a, b⟩ := hv i v (by rw [List.getElem?_append_left hlt]; exact hi)
      rw [List.getElem?_append_left (by omega)] at a
      exact ⟨k₃, tk₃, a, b⟩)
    have nm : k ∉ kvs.map (·.1) := by
      rw [ih'.keys, List.map_map]
      intro hm
      have hm' : k ∈ ks' := by simpa [Function.comp] using hm
      exact hn'.2.2 k hm' k (by simp) rfl
    rw [stored_new nm, List.map_append]
    exact ih'.snoc k (f k) t

section
variable {w : World} {A : Around} {E : Value → Shared → Prop} {s : Shared} {env : Env}

theorem dcomp {vx : Expr} {x d : Str} {px pk pd : Pos} {ifs : List Expr} {scope : Scope} {cl : List (Str × Addr)} {pos : Pos} {Q : Value → Shared → Prop} (p : Str → Bool) (f : Str → Int) {D : Ct} {a : Addr}
    (rm : Rm 20 A) (W : Wd w s.heap) (hclos : closureFor scope env = pure cl) (hcell : ∀ y ∈ scope.names, y.2 ≠ .cell) (hkind : scope.kind = .function)
    (hnames : ∀ y ∈ scope.names, y.2 = .local → scope.names.lookup y.1 = some .local) (hx : scope.names.lookup x = some .local) (hxd : (x == ("__debug__" : Str)) = false)
    (hd : Nm env s.heap d (.ref a)) (t : TB w s.heap a D) (hlen : D.length ≤ 1000)
    (htest : ∀ C h' k tk m, k ∈ D.map (·.1) → Up s.heap h' → h'.Ns C m → m x = some (.str k tk) → PT w (compEnvC scope cl C env) h' ifs (p k))
    (hval : ∀ C h' k tk m, k ∈ D.map (·.1) → p k = true → Up s.heap h' → h'.Ns C m → m x = some (.str k tk) → PE w (compEnvC scope cl C env) h' vx (IntV (f k)))
    (hQ : ∀ d h' tk, Up s.heap h' → s.heap.objs.size ≤ d → Dc w h' d (((D.map (·.1)).filter p).map fun k => (k, f k)) → Q (.ref d) { s with heap := h', toks := tk })
    (hs : ∀ x, foldedSetIterable (.Name d pd) env x = pure x := by intro _; rfl) :
    wpAny (model pg w) A (eval (.DictComp (.Name x pk) vx [⟨.Name x px, .Name d pd, ifs, 0⟩] scope pos) env) Q E s := by
  obtain ⟨cls, od, kvs, DC, ⟨ep, dl⟩, fa, hod⟩ := id t
  have hk1 : kvs.map (·.1) = D.map (·.1) := fa.keys
  rw [arm_eval_DictComp]
  refine wpAny_comprehension_free (use := none) rfl hs hclos hkind hnames ((hd _ _) A _ E s (fun _ _ e => e) (dl_pyIter dl DC ?_))
  refine wpAny_newObj_type (wpAny_newFunctionEnv hcell (by intro y hy; simp at hy) (fun h₁ hns₁ hsb₁ => ?_) hkind)
  dsimp only at hns₁ hsb₁ ⊢
  generalize hH1 : s.heap.push { cls := .type "dict_keyiterator", data := .fields #[.ref a, .int 0 0, .int kvs.length 0, .int ep 0] } = H1 at hns₁ hsb₁ ⊢
  have hI1 : H1.objs.size = s.heap.objs.size + 1 := by rw [← hH1, Heap.size_push]
  have hit1 : H1.IsKeyIter s.heap.objs.size a 0 kvs.length ep := ⟨_, by rw [← hH1]; exact Heap.get?_push_size _ rfl, rfl, rfl⟩
  have up1 : Up s.heap H1 := fun b o e => by rw [← hH1]; exact Heap.get?_push_of_some _ e
  have hnew : (H1.push { cls := .type "dict", dict := none, data := .dict #[] }).DictOf (strKind pg w) H1.objs.size [] := Heap.DictOf.new H1
  generalize hH2 : H1.push { cls := .type "dict", dict := none, data := .dict #[] } = H2 at hns₁ hsb₁ hnew ⊢
  have hC : H2.objs.size = H1.objs.size + 1 := by rw [← hH2, Heap.size_push]
  have up2 : Up H1 H2 := fun b o e => by rw [← hH2]; exact Heap.get?_push_of_some _ e
  have halt : a < s.heap.objs.size := DL.lt ⟨ep, dl⟩
  have hne : a ≠ s.heap.objs.size := Nat.ne_of_lt halt
  have up21 : ∀ b o, H2.get? b = some o → b ≠ H2.objs.size → h₁.get? b = some o := fun b o e n => hsb₁.extBut b o n (Heap.get?_push_of_some _ e)
  have old : Up H1 h₁ := fun b o e => up21 b o (up2 b o e) (by have hlt : @LT.lt Nat _ b H1.objs.size := Heap.lt_size e; exact neA (by omega))
  have hacc : h₁.DictOf (strKind pg w) H1.objs.size [] := hnew.at fun o e => up21 _ _ e (neA (by omega))
  have Wk := dl_walks (w := w) (A := A) rm.1 (cls := cls) (od := od) (kvs := kvs) (ep := ep) hne
  have hst : (fun i h => h.IsKeyIter s.heap.objs.size a i kvs.length ep ∧ DLe w h cls od a kvs ep) 0 h₁ := ⟨let ⟨o, ho, r⟩ := hit1; ⟨o, old _ _ ho, r⟩, (dl.keeps up1).keeps old⟩
  have key_of : ∀ (i : Nat) (v : Value), (∃ k x tk, kvs[i]? = some (k, x) ∧ v = Value.str k tk) → ∃ k tk, v = Value.str k tk ∧ k ∈ D.map (·.1) ∧ kvs[i]?.map (·.1) = some k := fun i v ⟨k, x, tk, e, ev⟩ =>
    ⟨k, tk, ev, by rw [← hk1]; exact List.mem_map.mpr ⟨_, List.mem_of_getElem? e, rfl⟩, by rw [e]; rfl⟩
  have pq : ∀ k tk, pv p (.str k tk) = p k := fun _ _ => rfl
  have halt' : @LT.lt Nat _ a s.heap.objs.size := halt
  have hDf : H1.objs.size ∉ [s.heap.objs.size, a] := nin2 (by omega) (by omega)
  have hCf : H2.objs.size ∉ [s.heap.objs.size, a] := nin2 (by omega) (by omega)
  have loop : codeAny (model pg w) A (.compLoop (.DictComp (.Name x pk) vx [⟨.Name x px, .Name d pd, ifs, 0⟩] scope pos) 0 (.ref s.heap.objs.size) (.ref H1.objs.size) (compEnvC scope cl H2.objs.size env))
      (compPost (model pg w) A E none Q (.ref H1.objs.size) H2.objs.size) { s with heap := h₁, toks := s.toks + ([] : List (Str × Value)).length } := by
    refine codeAny_compLoop_walkD (knd := strKind pg w) (cenv := compEnvC scope cl H2.objs.size env) Wk (pv p) (fun v k => ∃ tk, v = .str k tk) (fun v y => ∃ k tk, v = .str k tk ∧ IntV (f k) y)
      (lookup_relabel_local hx) (by simp [compEnvC, relabel, hkind]) (show H1.objs.size ≠ H2.objs.size by omega) hDf hCf hst hacc hns₁ ?_ ?_ ?_ ?_
      (by rw [fa.length, sizeLine_eq]; omega)
    · intro i v s₂ m₂ hP hn hm hk
      obtain ⟨k, tk, rfl, hmem, _⟩ := key_of i v hP
      refine htest H2.objs.size s₂.heap k tk m₂ hmem (fun b o e => ?_) hn hm A _ _ s₂ rm (fun _ _ e => e) fun s' ks => ⟨rfl, ks⟩
      have hlt : @LT.lt Nat _ b s.heap.objs.size := Heap.lt_size e
      exact hk b o (show b ≠ H2.objs.size from neA (by omega)) (nin1 (by omega)) (neA (by omega)) (old b o (up1 b o e))
    · intro i v s₂ m₂ hP hp hn hm hk
      obtain ⟨k, tk, rfl, hmem, _⟩ := key_of i v hP
      have nmx : Nm (compEnvC scope cl H2.objs.size env) s₂.heap x (.str k tk) := nm_local hkind (lookup_relabel_local hx) hn hm hxd
      exact (nmx _ _) A _ _ s₂ (fun _ _ e => e) ⟨⟨k, strKind_is _ _ _ _, tk, rfl⟩, keeps_refl _⟩
    · intro i v s₂ m₂ hP hp hn hm hk
      obtain ⟨k, tk, rfl, hmem, _⟩ := key_of i v hP
      refine hval H2.objs.size s₂.heap k tk m₂ hmem hp (fun b o e => ?_) hn hm A _ _ s₂ rm (fun _ _ e => e) fun v s' ks hv => ⟨⟨k, tk, rfl, hv⟩, ks⟩
      have hlt : @LT.lt Nat _ b s.heap.objs.size := Heap.lt_size e
      exact hk b o (show b ≠ H2.objs.size from neA (by omega)) (nin1 (by omega)) (neA (by omega)) (old b o (up1 b o e))
    · intro h' tk m' kvs' vs hn ha hlen' hP hF hk
      refine ⟨m', hn, fun h'' hs'' => ?_⟩
      have keep : Up s.heap h'' := fun b o e => by
        have hlt : @LT.lt Nat _ b s.heap.objs.size := Heap.lt_size e
        exact hs''.extBut b o (show b ≠ H2.objs.size from neA (by omega)) (hk b o (show b ≠ H2.objs.size from neA (by omega)) (nin1 (by omega)) (neA (by omega)) (old b o (up1 b o e)))
      have hsm : @LT.lt Nat _ 95 H1.objs.size := by
        have h1 := W.size
        omega
      have hD' : h''.DictOf (strKind pg w) H1.objs.size kvs' := ha.at fun o e => hs''.extBut _ _ (show H1.objs.size ≠ H2.objs.size by omega) e
      refine hQ H1.objs.size h'' tk keep (by omega) ⟨kvs', DL.of_dictOf hsm hD', ?_⟩
      have hvs : ∀ j : Nat, vs[j]?.map kyv = (D.map (·.1))[j]? := fun j => by
        rw [← hk1]
        cases e : vs[j]? with
        | none =>
          have : kvs.length ≤ j := by rw [← hlen']; exact List.getElem?_eq_none_iff.mp e
          rw [List.getElem?_map, List.getElem?_eq_none this]; rfl
        | some v =>
          obtain ⟨k, tk, rfl, _, e2⟩ := key_of j v (hP j v e)
          rw [List.getElem?_map, e2]; rfl
      have hvs' : ∀ v ∈ vs, ∃ k tk, v = .str k tk := fun v hv => by
        obtain ⟨j, hj⟩ := List.getElem?_of_mem hv
        obtain ⟨k, tk, e, _⟩ := key_of j v (hP j v hj)
        exact ⟨k, tk, e⟩
      have hmap : vs.map kyv = D.map (·.1) := List.ext_getElem? fun j => by rw [List.getElem?_map]; exact hvs j
      refine storedAll_is hF _ (List.Nodup.sublist List.filter_sublist t.nodup) ?_ ?_
      · rw [← hmap, List.filter_map, List.length_map]
        refine congrArg List.length (List.filter_congr fun v hv => ?_)
        obtain ⟨k, tk, rfl⟩ := hvs' v hv
        rfl
      · intro i v hi
        have hv := List.mem_of_getElem? hi
        obtain ⟨k, tk, rfl⟩ := hvs' v (List.mem_filter.mp hv).1
        refine ⟨k, tk, ?_, rfl⟩
        rw [← hmap, List.filter_map, List.getElem?_map]
        have : vs.filter (p ∘ kyv) = vs.filter (pv p) := List.filter_congr fun v hv => by
          obtain ⟨k, tk, rfl⟩ := hvs' v hv
          rfl
        rw [show (vs.filter (p ∘ kyv)) = _ from this, hi]; rfl
  exact codeAny_compStart_dict loop (wpAny_pyIter_keyiter hst.1 loop)
end
end Mine
end

section
open PySem PySem.W PyProof.Rows PySem.Calls
set_option linter.unusedVariables false
namespace Mine
set_option maxRecDepth 100000

section
variable {w : World} {A : Around} {E : Value → Shared → Prop} {s : Shared} {env : Env}

theorem for_core {target : Expr} {body : List Stmt} {R : Result → Shared → Prop} {I : Addr} {fp wI wr : List Addr} {n : Nat} {P : Nat → Value → Prop} {St : Nat → Heap → Prop} (Wk : Walks pg w A I fp wI n P St)
    (Inv : Nat → Heap → Prop) (hst : St 0 s.heap) (h0 : Inv 0 s.heap) (hfp : ∀ b ∈ fp, b ∉ wr)
    (stab : ∀ i h h', Inv i h → (∀ b o, b ∉ wI → h.get? b = some o → h'.get? b = some o) → Inv i h')
    (turn : ∀ i v h tk E', i < n → P i v → Inv i h → (∀ b o, b ∉ wI → b ∉ wr → s.heap.get? b = some o → h.get? b = some o) →
      wpAny (model pg w) A (assign target env v) (fun _ s₂ => wpAny (model pg w) A (execs body env) (fun fl s₃ => fl = .next ∧ ∃ h₃ tk₃, s₃ = { s with heap := h₃, toks := tk₃ } ∧ Inv (i + 1) h₃ ∧
        (∀ b o, b ∉ wr → h.get? b = some o → h₃.get? b = some o)) E' s₂) E' { s with heap := h, toks := tk })
    (hR : ∀ h tk, Inv n h → (∀ b o, b ∉ wI → b ∉ wr → s.heap.get? b = some o → h.get? b = some o) → R (.ok .next) { s with heap := h, toks := tk })
    (ht : ∀ v, letOwnedTupleGo target (.ref I) v = pure () := by intro _; rfl) :
    codeAny (model pg w) A (.forLoop target (.ref I) body [] env) R s := by
  refine codeAny_forLoop (fun k s' => ∃ i h tk, s' = { s with heap := h, toks := tk } ∧ i ≤ n ∧ k = n - i ∧ Inv i h ∧ St i h ∧ (∀ b o, b ∉ wI → b ∉ wr → s.heap.get? b = some o → h.get? b = some o)) ?_ n
    ⟨0, s.heap, s.toks, rfl, Nat.zero_le _, rfl, h0, hst, fun _ _ _ _ e => e⟩ ht
  rintro k s' ⟨i, h, tk, rfl, hi, rfl, hinv, hs, hk⟩
  by_cases hlt : i < n
  · refine Wk.item i _ _ _ hlt hs fun v h₁ tk₁ hP hs₁ hk₁ => ?_
    have hk₁' : ∀ b o, b ∉ wI → b ∉ wr → s.heap.get? b = some o → h₁.get? b = some o := fun b o h1 h2 e => hk₁ b o h1 (hk b o h1 h2 e)
    refine wpAny_mono (turn i v h₁ tk₁ _ hlt hP (stab i _ _ hinv hk₁) hk₁') (fun _ s₂ h₂ => wpAny_mono h₂ (fun fl s₃ h₃ => ?_) fun _ _ e => e) fun _ _ e => e
    obtain ⟨rfl, h₃, tk₃, rfl, hinv₃, hk₃⟩ := h₃
    exact ⟨n - (i + 1), by omega, i + 1, h₃, tk₃, rfl, hlt, rfl, hinv₃, Wk.frame _ _ _ hs₁ fun b hb o e => hk₃ b o (hfp b hb) e, fun b o h1 h2 e => hk₃ b o h2 (hk₁' b o h1 h2 e)⟩
  · have hin : i = n := by omega
    subst hin
    refine Wk.done _ _ _ hs fun h₁ tk₁ hk₁ => ?_
    exact wpAny_execs_nil (hR h₁ tk₁ (stab _ _ _ hinv hk₁) fun b o h1 h2 e => hk₁ b o h1 (hk b o h1 h2 e))

/-- a for over a table's letters -/
theorem for_tb {x d : Str} {px pd pos : Pos} {body : List Stmt} {Q : Flow → Shared → Prop} {a : Addr} {D : Ct} (wr : List Addr) (Inv : Nat → Heap → Prop) (rm : Rm 20 A)
    (hd : Nm env s.heap d (.ref a)) (t : TB w s.heap a D) (ha : a ∉ wr) (hwr : ∀ b ∈ wr, b < s.heap.objs.size)
    (h0 : ∀ h', (∀ b o, b < s.heap.objs.size → s.heap.get? b = some o → h'.get? b = some o) → Inv 0 h')
    (stab : ∀ i h h', Inv i h → (∀ b o, b ≠ s.heap.objs.size → h.get? b = some o → h'.get? b = some o) → Inv i h')
    (turn : ∀ i k tk h tk' E', (D.map (·.1))[i]? = some k → Inv i h → (∀ b o, b ∉ wr → s.heap.get? b = some o → h.get? b = some o) →
      wpAny (model pg w) A (storeName env x (.str k tk)) (fun _ s₂ => wpAny (model pg w) A (execs body env) (fun fl s₃ => fl = .next ∧ ∃ h₃ tk₃, s₃ = { s with heap := h₃, toks := tk₃ } ∧ Inv (i + 1) h₃ ∧
        (∀ b o, b ∉ wr → h.get? b = some o → h₃.get? b = some o)) E' s₂) E' { s with heap := h, toks := tk' })
    (hQ : ∀ h tk, Inv D.length h → (∀ b o, b ∉ wr → s.heap.get? b = some o → h.get? b = some o) → Q .next { s with heap := h, toks := tk })
    (hs : ∀ x, foldedSetIterable (.Name d pd) env x = pure x := by intro _; rfl) :
    wpAny (model pg w) A (exec (.For (.Name x px) (.Name d pd) body [] pos) env) Q E s := by
  obtain ⟨cls, od, kvs, DC, ⟨ep, dl⟩, fa, hod⟩ := id t
  have hk1 : kvs.map (·.1) = D.map (·.1) := fa.keys
  have halt : @LT.lt Nat _ a s.heap.objs.size := DL.lt ⟨ep, dl⟩
  have up1 : ∀ b o, s.heap.get? b = some o → (s.heap.push { cls := .type "dict_keyiterator", data := .fields #[.ref a, .int 0 0, .int kvs.length 0, .int ep 0] }).get? b = some o := fun b o e => Heap.get?_push_of_some _ e
  refine wpAny_For ((hd _ _) A _ E s (fun _ _ e => e) (dl_pyIter dl DC ?_)) hs
  refine for_core (s := { s with heap := s.heap.push { cls := .type "dict_keyiterator", data := .fields #[.ref a, .int 0 0, .int kvs.length 0, .int ep 0] } })
    (wr := wr) (dl_walks (w := w) (A := A) rm.1 (cls := cls) (od := od) (kvs := kvs) (ep := ep) (I := s.heap.objs.size) (a := a) (neA (by omega))) Inv ⟨⟨_, Heap.get?_push_size _ rfl, rfl, rfl⟩, dl.keeps up1⟩
    (h0 _ fun b o _ e => up1 b o e) ?_ (fun i h h' hi hk => stab i h h' hi fun b o hb e => hk b o (nin1 hb) e) ?_ ?_
  · intro b hb hb'
    rcases List.mem_cons.mp hb with rfl | hb
    · exact Nat.lt_irrefl _ (hwr _ hb')
    · rcases List.mem_cons.mp hb with rfl | hb
      · exact ha hb'
      · cases hb
  · rintro i v h tk E' hi ⟨k, x', tk', hx, rfl⟩ hinv hk
    have hkk : (D.map (·.1))[i]? = some k := by rw [← hk1, List.getElem?_map, hx]; rfl
    refine wpAny_assign_Name (turn i k tk' h tk E' hkk hinv fun b o hb e => ?_)
    have hlt : @LT.lt Nat _ b s.heap.objs.size := Heap.lt_size e
    exact hk b o (nin1 (by omega)) hb (up1 b o e)
  · intro h tk hinv hk
    rw [fa.length] at hinv
    refine hQ h tk hinv fun b o hb e => ?_
    have hlt : @LT.lt Nat _ b s.heap.objs.size := Heap.lt_size e
    exact hk b o (nin1 (by omega)) hb (up1 b o e)
end

end Mine
end

section
open PySem PySem.W PyProof.Rows PySem.Calls Builtin
set_option linter.unusedVariables false
namespace Mine
set_option maxRecDepth 100000

abbrev ctrObj (dx : Addr) : Obj := ⟨.ref 67, some dx, .dict #[] 0, #[]⟩

theorem dn_args {rest : List Value} : argsOk "dict.__new__" ⟨.ref 67 :: rest, []⟩ := by unfold argsOk; kernel_rfl
theorem dn_kind : builtinKind "dict.__new__" = some .builtinFn := by decide +kernel
theorem dn_split : splitId "dict.__new__" = some ("dict", "__new__") := by decide +kernel
theorem dn_entry : entryFor table "dict.__new__" = some Builtin.«dict.__new__» := entryFor_of_tree (by kernel_rfl)

def cdC : ClassData := { name := "Counter", bases := [.type "dict"], mro := [.ref 67, .type "dict", .type "object"], ns := 66, qualname := "Counter" }
def slC : Array (Option Value) := #[some (.ref 15), none, some (.str "Counter" 189), some (.str "Counter" 197), some (.builtin "dict.__new__"), some (.bool true)]
theorem cls_at (w : World) : (KH w).lookup 67 = some ⟨.type "type", none, .cls cdC, slC⟩ := by kernel_rfl

theorem Rm.make {n : Nat} {A : Around} {rest : List Value} (h : Rm (n + 1) A) : Rm n (A.under (.builtin "type.__call__" ⟨.ref 67 :: rest, []⟩)) :=
  ⟨h.1, by have := h.2.1; show A.depth + 1 + n ≤ 1000; omega, by have := h.2.2; show A.units + 1 + 10 * n ≤ 9900; omega⟩

section
variable {w : World} {A : Around} {h : Heap} {g : Array GenState} {d : Drawn} {t : Nat} {os : OsState} {R : Result → Shared → Prop}
structure Mk67 (M : Model) (h : Heap) : Prop where
  obj : h.get? 67 = some ⟨.type "type", none, .cls cdC, slC⟩
  mro : Looks M h (mroOf (.ref 67)) [.ref 67, .type "dict", .type "object"]
  made : Looks M h (Bind.madeBy (.ref 67)) (some "dict.__new__")
  base : Looks M h (Bind.staticBase (.ref 67)) (.ref 67)
  self : Looks M h (isSubtype (.ref 67) (.ref 67)) true
  top : Looks M h (isSubtype (.ref 67) (.type "dict")) true
  call : Looks M h (specialOf (.ref 67) "__call__") (some (.builtin "type.__call__"))
  typ : Looks M h (isInstance (.ref 67) (.type "type")) true
  init : Looks M h (typeLookup (.ref 67) "__init__") (some (.ref 30))
  isT : Looks M h (isType (.ref 67)) true

theorem mk67 {M : Model} (X : (KH w).In h) : Mk67 M h := by
  have ho := X _ _ (cls_at w)
  have hc : clsIn (KH w) 67 = some cdC := by kernel_rfl
  have hm : Looks M h (mroOf (.ref 67)) cdC.mro := (looks_clsIn X hc).andThen .now
  have made : Looks M h (Bind.madeBy (.ref 67)) (some "dict.__new__") := by
    intro A Q E s k q
    unfold Bind.madeBy
    refine wpAny_bind (hm A _ E s k ?_)
    show wpAny M A (forIn [Value.ref 67, .type "dict", .type "object"] _ _ >>= _) Q E s
    rw [List.forIn_cons]
    refine wpAny_bind (wpAny_bind (wpAny_bind (wpAny_bind (wpAny_loadPart (k _ _ ho) (wpAny_pure ?_)))))
    exact wpAny_pure (wpAny_pure (wpAny_pure q))
  refine ⟨ho, hm, made, ?_, looks_subIn X (by kernel_rfl), looks_subIn X (by kernel_rfl), looks_specialIn X (by kernel_rfl), looks_instIn X (by kernel_rfl), looks_findIn X (by kernel_rfl), ?_⟩
  · intro A Q E s k q
    unfold Bind.staticBase
    refine wpAny_bind (hm A _ E s k ?_)
    show wpAny M A (forIn [Value.ref 67, .type "dict", .type "object"] _ _ >>= _) Q E s
    rw [List.forIn_cons]
    exact wpAny_bind (wpAny_bind (wpAny_bind (made A _ E s k (wpAny_pure (wpAny_pure (wpAny_pure q))))))
  · exact (Looks.ld (part := none) ho).andThen .now

theorem new_ctr {rest : List Value} (Y : Mk67 (model pg w) h)
    (hq : R (.ok (.ret (.ref (h.objs.size + 1)))) ⟨(h.push emptyDict).push (ctrObj h.objs.size), g, d, t, os⟩) :
    codeAny (model pg w) A (.call (.builtin "dict.__new__") ⟨.ref 67 :: rest, []⟩) R ⟨h, g, d, t, os⟩ := by
  obtain ⟨hC, hmro, made, base, self, top, call, typ, init, isT⟩ := Y
  refine codeAny_call_builtin_code (Code.quiet_builtin _ (by decide +kernel)) ?_
  simp only [checkBuiltinCall, dn_kind, dn_split]
  have hargs := dn_args (rest := rest)
  unfold argsOk at hargs
  have here : Looks (model pg w) h (Bind.madeHere "dict.__new__" (.ref 67)) () := base.andThen (made.andThen (Looks.of_pure (by simp only [Option.map_some, bne_self_eq_false, Bool.false_eq_true, if_false])))
  repeat (first | simp only [bne_self_eq_false, Bool.false_eq_true, if_false] | lk)
  refine codeAny_builtin dn_entry ?_
  unfold Builtin.«dict.__new__»
  have fin : ∀ A', wpAny (model pg w) A' (do ret (← newObj (.ref 67) (.dict #[]) (some (← alloc { cls := .type "dict", data := .dict #[] })))) (fun fin s' => match fin with | .done f => R (.ok f) s' | .again c' => c'.quiet = true ∧ codeAny (model pg w) A c' R s') (fun e s' => R (.error e) s') ⟨h, g, d, t, os⟩ := by
    intro A'
    refine wpAny_bind (wpAny_bind (wpAny_alloc (wpAny_pure (wpAny_bind ?_))))
    show wpAny _ _ (newObj (.ref 67) (.dict #[]) (some h.objs.size)) _ _ _
    unfold newObj
    dsimp only
    rw [if_neg (by simp)]
    show wpAny _ _ (newObjAsIs _ _ _) _ _ _
    unfold newObjAsIs classHasDel
    refine wpAny_bind (wpAny_alloc (wpAny_bind (wpAny_bind (wpAny_load (Heap.get?_push_of_some _ (Heap.get?_push_of_some _ hC)) (wpAny_pure ?_)))))
    refine wpAny_pure (wpAny_pure ?_)
    show R _ _
    rw [Heap.size_push]
    exact hq
  repeat (first | simp only [bne_self_eq_false, Bool.false_eq_true, if_false, Bool.not_true] | exact fin _ | lk)

theorem make_ctr {rest : List Value} (X : (KH w).In h)
    (hq : codeAny (model pg w) (A.under (.builtin "type.__call__" ⟨.ref 67 :: rest, []⟩)) (.call (.ref 30) ⟨.ref (h.objs.size + 1) :: rest, []⟩) (InitBack (h.objs.size + 1) R) ⟨(h.push emptyDict).push (ctrObj h.objs.size), g, d, t, os⟩) :
    codeAny (model pg w) A (.call (.ref 67) ⟨rest, []⟩) R ⟨h, g, d, t, os⟩ := by
  have Y := mk67 (M := model pg w) X
  have Y' := Y
  obtain ⟨hC, hmro, made, base, self, top, call, typ, init, isT⟩ := Y
  refine codeAny_of_tree ?_
  show wpAny _ _ (callAny (.ref 67) _) _ _ _
  refine nd_load hC ?_
  show wpAny _ _ (callAny.viaDunder (.ref 67) _) _ _ _
  unfold callAny.viaDunder
  refine wpAny_bind (call.at ?_)
  dsimp only
  rw [tc_bind]
  refine wpAny_bind (wpAny_pure (wpAny_bind (wpAny_pure ?_)))
  refine wpAny_pure (a := Fin.again (.call (.builtin "type.__call__") ⟨.ref 67 :: rest, []⟩)) (And.intro rfl ?_)
  refine codeAny_call_builtin_at (Code.quiet_builtin _ (by decide +kernel)) entry_typeCall (check_slot tc_kind tc_split typ (tc_args _ _ _) ?_)
  unfold Builtin.«type.__call__»
  repeat (first | simp only [Bool.false_eq_true, if_false, List.isEmpty_cons] | with_reducible refine wpAny_call ?_ | lk)
  refine new_ctr Y' ?_
  have k : Up h ((h.push emptyDict).push (ctrObj h.objs.size)) := fun b o e => Heap.get?_push_of_some _ (Heap.get?_push_of_some _ e)
  have hx : ((h.push emptyDict).push (ctrObj h.objs.size)).get? (h.objs.size + 1) = some (ctrObj h.objs.size) := by heap_get
  have t1 : Looks (model pg w) ((h.push emptyDict).push (ctrObj h.objs.size)) (typeOf (.ref (h.objs.size + 1))) (.ref 67) := (Looks.ld hx).andThen .now
  have s1 := self.keeps k
  have i1 := init.keeps k
  have b1 : Looks (model pg w) ((h.push emptyDict).push (ctrObj h.objs.size)) (bindSpecial (.ref 30) (.ref (h.objs.size + 1))) (.ref 30, [.ref (h.objs.size + 1)]) := bind_fn (X.keeps k) _ (by kernel_rfl)
  unfold isInstance callSpecial? specialOf
  repeat (first | with_reducible refine wpAny_call ?_ | lk)
  refine codeAny_mono hq fun r s' z => ?_
  rcases r with e | (v | _ | _ | _) <;> first | exact z | exact z.elim | skip
  obtain ⟨rfl, z⟩ := z
  exact wpAny_pure (wpAny_pure z)
end

end Mine
end

section
open PySem PySem.W PyProof.Rows PySem.Calls Builtin
set_option linter.unusedVariables false
namespace Mine
set_option maxRecDepth 100000
set_option maxHeartbeats 4000000

theorem call_fn {w : World} {A : Around} {s : Shared} {R : Result → Shared → Prop} {f : Addr} {fd : FuncData} {body : List Stmt} {args : Args} {binds : List (Str × Value)}
    (rm : Rm 1 A) (W : Wd w s.heap) (ho : (KH w).lookup f = some ⟨.type "function", none, .func fd, #[]⟩) (hcd : codeIn (KH w) fd.code fd.qualname = true) (hbody : fd.body = .stmts body)
    (hbind : BindsTo s fd args binds) (hclo : fd.closure = [])
    (hkind : (binds.all fun y => fd.scope.names.lookup y.1 == some .local || fd.scope.names.lookup y.1 == some .cell) = true)
    (h : ∀ s₁ E', InCallC s (callEnvC fd s.heap.objs.size f).locals (bindL (callEnvC fd s.heap.objs.size f).kindOf binds fun _ => none) (callEnvC fd s.heap.objs.size f).cells
        (bindC (callEnvC fd s.heap.objs.size f).kindOf binds fun _ => none) s₁ →
      wpAny (model pg w) (A.deeper (callEnvC fd s.heap.objs.size f)) (execs body (callEnvC fd s.heap.objs.size f)) (fun fl s' => R (.ok (.ret (match fl with | .ret v => v | _ => .none))) s') E' s₁)
    (hco : fd.scope.isCoroutine = false := by kernel_rfl) (hgen : fd.scope.isGenerator = false := by kernel_rfl) (hk : fd.scope.kind = .function := by kernel_rfl) :
    codeAny (model pg w) A (.call (.ref f) args) R s := by
  refine codeAny_call_function rm.depth (W.K _ _ ho) rfl hco hgen hbody (codeRec_of W.K hcd) (hbind _ _ _ _ ?_)
  rw [hclo]
  refine wpAny_newFunctionEnv_cells hk (kindsX hkind _) fun env he s' x => ?_
  subst he
  exact ⟨W.lim.keeps x.toInCall.keep, codeAny_func (h s' _ x)⟩

theorem handed_di : handedIn (.builtin "dict.__init__") = true := by decide +kernel
theorem findCls_di (w : World) : findCls (KH w) (.type "dict") (.type "type") "__init__" = some (.val (.builtin "dict.__init__")) := by kernel_rfl
theorem stub_di : Manifest.isStub "dict" = false := by decide +kernel
theorem meta_dict : typeOf (.type "dict") = pure (.type "type") := by kernel_rfl
theorem ic_fr {s₀ s : Shared} {L : Addr} {m cm : Str → Option Value} {cs : List (Str × Addr)} (x : InCallC s₀ L m cs cm s) : Fr s₀.heap L s.heap m := ⟨x.toInCall.ns, x.toInCall.keep, x.toInCall.fresh⟩

theorem dinit0 {w : World} {A : Around} {E : Value → Shared → Prop} {s : Shared} {x : Addr} {D : Ct} {Q : Value → Shared → Prop} (W : Wd w s.heap) (hx : Cr w s.heap x D) (h : Q .none s) :
    wpAny (model pg w) A (call (.builtin "dict.__init__") [.ref x]) Q E s := by
  obtain ⟨dx, kvs, dl, fa, e⟩ := hx
  refine call_meth' (n := "__init__") (.inl (by decide +kernel)) (by decide +kernel) PySem.F.slot_dict_init.plain PySem.F.entry_dict_init (dl.inst (dcls_ctr W.K) _) (PySem.F.args_dict_init_1 _) ?_
  unfold Builtin.«dict.__init__»
  refine wpAny_bind ?_
  unfold Builtin.Dict.selfAndRest
  refine wpAny_bind ((noord_of (dl.type _) ((dcls_ctr W.K).noord _)).here ?_)
  exact wpAny_pure (wpAny_pure ⟨_, rfl, h⟩)

theorem isi_ctr {w : World} {A : Around} {E : Value → Shared → Prop} {s : Shared} {x : Addr} {D : Ct} {Q : Value → Shared → Prop} (W : Wd w s.heap) (hx : Cr w s.heap x D) (h : Q (.bool true) s) :
    wpAny (model pg w) A (call (.builtin "isinstance") [.ref x, .type "dict"]) Q E s := by
  obtain ⟨dx, kvs, dl, fa, e⟩ := hx
  have L3 := dl.inst (dcls_ctr W.K) (model pg w)
  have L4 := dl.type (model pg w)
  refine call_isinstance_of ?_ (by intro e; cases e)
  obtain ⟨hh, g, d, tt, os⟩ := s
  unfold Builtin.«isinstance.nested»
  refine wpAny_bind (L4.at ?_)
  rw [if_neg (by decide)]
  refine wpAny_bind (m := typeOf (.type "dict")) (wpAny_of_eq (a := .type "type") (by kernel_rfl) ?_)
  rw [if_pos (by decide)]
  k_delta "plainIsInstance"
  refine wpAny_bind (wpAny_bind (m := isType (.type "dict")) (wpAny_pure (a := true) ?_))
  refine wpAny_bind (m := isInstance (.ref x) (.type "dict")) (L3.at ?_)
  exact wpAny_pure (a := true) (wpAny_pure h)

theorem di_stmt {w : World} {A : Around} {E : Value → Shared → Prop} {s : Shared} {h₀ : Heap} {L : Addr} {m : Str → Option Value} {env : Env} {x : Addr} {D : Ct} {p1 p2 p3 p4 ap : Pos} {Q : Flow → Shared → Prop} (F : Fr h₀ L s.heap m) (W : Wd w h₀) (hx : Cr w s.heap x D)
    (nd : Nm env s.heap "dict" (.type "dict")) (ns : Nm env s.heap "self" (.ref x)) (hint : interactive env = false) (h : Q .next { s with toks := s.toks + 1 }) (hline : (ap.endLine == p3.line) = true := by rfl) :
    wpAny (model pg w) A (exec (.Expr (.Call (.Attribute (.Name "dict" p1) "__init__" ap) [.Name "self" p2] [] p3) p4) env) Q E s := by
  refine wpAny_Expr (call_attr (hline := hline) ((nd _ _).here ?_)) hint
  refine method_type (T := "dict") (name := "__init__") (v := .builtin "dict.__init__") F W.K meta_dict stub_di (findCls_di w) handed_di ?_
  refine callWith_builtin rfl (evalArgs_plain (spliced_cons ?_))
  exact (ns _ _) _ _ _ _ (fun _ _ e => e) (spliced_nil (dinit0 (s := { s with toks := s.toks + 1 }) (W.keeps F.keep) hx h))

theorem isi_stmt {w : World} {A : Around} {E : Value → Shared → Prop} {s : Shared} {env : Env} {v : Value} {p1 p2 p3 p4 p5 : Pos} {b : Bool} {B1 B2 : List Stmt} {Q : Flow → Shared → Prop}
    (ni : Nm env s.heap "isinstance" (.builtin "isinstance")) (nd : Nm env s.heap "dict" (.type "dict")) (ns : Nm env s.heap "items" v)
    (isi : ∀ (Q : Value → Shared → Prop), (∀ tk, Q (.bool b) { s with toks := tk }) → wpAny (model pg w) A (call (.builtin "isinstance") [v, .type "dict"]) Q E s)
    (h : ∀ tk, wpAny (model pg w) A (execs (if b = true then B1 else B2) env) Q E { s with toks := tk }) :
    wpAny (model pg w) A (exec (.If (.Call (.Name "isinstance" p1) [.Name "items" p2, .Name "dict" p3] [] p4) B1 B2 p5) env) Q E s := by
  refine wpAny_If (isTrue_plain ?_)
  refine call2 (id := "isinstance") ((ni _ _).keeps (fun _ _ e => e)) ?_
  refine (ns _ _) _ _ _ _ (fun _ _ e => e) ?_
  refine (nd _ _) _ _ _ _ (fun _ _ e => e) ?_
  refine isi _ fun tk => wpAny_truthy_bool ?_
  have := h tk
  cases b <;> exact this

section
variable {w : World} {fd : FuncData} {L f : Addr} {env : Env} {h : Heap} {n : Str} {v : Value} {m : Str → Option Value} {c : Addr}
theorem nl (hE : callEnvC fd L f = env) (ns : h.Ns env.locals m) (hv : m n = some v) (hk : fd.scope.kind = .function := by kernel_rfl) (hl : fd.scope.names.lookup n = some .local := by kernel_rfl) (hd : (n == ("__debug__" : Str)) = false := by decide) : Nm env h n v :=
  nm_local (by rw [← hE]; exact hk) (by rw [← hE]; exact hl) ns hv hd
theorem nc (hE : callEnvC fd L f = env) (hv : h.IsCell c (some v)) (hc : (cellsFrom (L + 1) fd.scope.names []).lookup n = some c := by kernel_rfl) (hk : fd.scope.kind = .function := by kernel_rfl) (hl : fd.scope.names.lookup n = some .cell := by kernel_rfl) (hd : (n == ("__debug__" : Str)) = false := by decide) : Nm env h n v :=
  nm_cell (by rw [← hE]; exact hk) (by rw [← hE]; exact hl) (by rw [← hE]; exact hc) hv hd
theorem ng (hE : callEnvC fd L f = env) (W : Wd w h) (e : nsIn (KH w) mainGlobals n = some (some v)) (hg : fd.globals = mainGlobals := by kernel_rfl) (hk : fd.scope.kind = .function := by kernel_rfl) (hl : fd.scope.names.lookup n = some .globalImplicit := by kernel_rfl) (hd : (n == ("__debug__" : Str)) = false := by decide) : Nm env h n v :=
  nm_global W (by rw [← hE]; exact hk) (by rw [← hE]; exact hl) (by rw [← hE]; exact hg) e hd
theorem nb (hE : callEnvC fd L f = env) (W : Wd w h) (e : nsIn (KH w) mainGlobals n = some none) (hv : bootBuiltins n = some v) (hn : n ≠ "__name__") (hg : fd.globals = mainGlobals := by kernel_rfl) (hb : fd.builtins = builtinsNs := by kernel_rfl) (hk : fd.scope.kind = .function := by kernel_rfl)
    (hl : fd.scope.names.lookup n = some .globalImplicit := by kernel_rfl) (hd : (n == ("__debug__" : Str)) = false := by decide) : Nm env h n v :=
  nm_builtin W (by rw [← hE]; exact hk) (by rw [← hE]; exact hl) (by rw [← hE]; exact hg) (by rw [← hE]; exact hb) e hv hn hd
end

theorem mset {m : Str → Option Value} {x n : Str} {v v' : Option Value} (h : m n = v') (ne : ¬ n = x := by decide +kernel) : (if n = x then v else m n) = v' := by rw [if_neg ne]; exact h
theorem TB.lt {w : World} {h : Heap} {a : Addr} {D : Ct} (x : TB w h a D) : @LT.lt Nat _ a h.objs.size := let ⟨_, _, _, _, q, _⟩ := x; q.lt
theorem c_init_tb {w : World} {A : Around} {s : Shared} {R : Result → Shared → Prop} {x a : Addr} {D : Ct} (rm : Rm 40 A) (W : Wd w s.heap) (hx : Cr w s.heap x []) (t : TT w s.heap a D) (hne : a ≠ x) (hlen : D.length ≤ 1000)
    (hR : ∀ h' tk, (∀ b o, b ≠ x → s.heap.get? b = some o → h'.get? b = some o) → Cr w h' x D → R (.ok (.ret .none)) { s with heap := h', toks := tk }) :
    codeAny (model pg w) A (.call (.ref 30) ⟨[.ref x, .ref a], []⟩) R s := by
  refine call_fn (binds := [("self", .ref x), ("items", .ref a)]) (rm.le (by decide)) W rfl (by kernel_rfl) rfl ?hb (by kernel_rfl) (by kernel_rfl) ?_ (by kernel_rfl) (by kernel_rfl) (by kernel_rfl)
  case hb => refine binds_K W.K rfl rfl rfl rfl ?_; kernel_rfl
  intro s₁ E' fr
  obtain ⟨h₁, t₁, rfl, up⟩ := fr.done
  have W₁ := W.keeps up
  have hx₁ := hx.keeps up
  obtain ⟨dx, hx0⟩ := hx.crd
  generalize hE : callEnvC _ s.heap.objs.size 30 = env at fr ⊢
  have hL : env.locals = s.heap.objs.size := by rw [← hE]; rfl
  have n_self : Nm env h₁ "self" (.ref x) := nl hE fr.toInCall.ns (by rw [← hE]; kernel_rfl)
  have n_items : Nm env h₁ "items" (.ref a) := nl hE fr.toInCall.ns (by rw [← hE]; kernel_rfl)
  have n_dict : Nm env h₁ "dict" (.type "dict") := nb hE W₁ (by kernel_rfl) (by boot_fast) (by decide)
  have n_isi : Nm env h₁ "isinstance" (.builtin "isinstance") := nb hE W₁ (by kernel_rfl) (by boot_fast) (by decide)
  have hint : interactive env = false := by rw [← hE]; kernel_rfl
  have kK : env.kindOf "key" = some .local := by rw [← hE]; kernel_rfl
  have kS : env.kindOf "self" = some .local := by rw [← hE]; kernel_rfl
  have kI : env.kindOf "items" = some .local := by rw [← hE]; kernel_rfl
  have kF : env.scope.kind = .function := by rw [← hE]; kernel_rfl
  have m1 : bindL env.kindOf [("self", .ref x), ("items", .ref a)] (fun _ => none) "self" = some (.ref x) := by rw [← hE]; kernel_rfl
  have m2 : bindL env.kindOf [("self", .ref x), ("items", .ref a)] (fun _ => none) "items" = some (.ref a) := by rw [← hE]; kernel_rfl
  clear hE
  refine wpAny_execs_cons (di_stmt (ic_fr fr) W hx₁ n_dict n_self hint ?_)
  refine wpAny_execs_cons (isi_stmt (b := true) (s := { s with heap := h₁, toks := t₁ + 1 }) n_isi n_dict n_items ?_ ?_)
  · intro Q q
    rcases t with tc | ⟨kv, ⟨ep, n, es, ho, _⟩, _⟩
    · exact isi_ctr (s := { s with heap := h₁, toks := t₁ + 1 }) W₁ (tc.keeps up) (q _)
    · exact IsiPair.dict_dict (s := { s with heap := h₁, toks := t₁ + 1 }) (up _ _ ho) rfl (q _)
  intro tk₁
  rw [if_pos rfl]
  refine wpAny_execs_cons ?_
  have hlt := hx0.lt
  have hlt1 : @LT.lt Nat _ s.heap.objs.size h₁.objs.size := by
    obtain ⟨o, es, ep, e, _⟩ := fr.toInCall.ns
    have := Heap.lt_size e
    rw [hL] at this
    exact this
  refine for_tb (s := { s with heap := h₁, toks := tk₁ }) [env.locals, x] (fun i h => ∃ m, h.Ns env.locals m ∧ m "self" = some (.ref x) ∧ m "items" = some (.ref a) ∧ Crd w h x dx (D.take i) ∧ ∀ b o, b ≠ x → s.heap.get? b = some o → h.get? b = some o)
    (rm.deeper.le (by decide)) n_items ((t.tb W).keeps up) ?_ ?_ ?_ ?_ ?_ ?_
  · exact nin2 (by rw [hL]; have := (t.tb W).lt; omega) hne
  · intro b hb
    rcases List.mem_cons.mp hb with rfl | hb
    · rw [hL]; exact hlt1
    · rcases List.mem_cons.mp hb with rfl | hb
      · exact Nat.lt_trans hlt.1 hlt1
      · cases hb
  · intro h' hk
    exact ⟨_, let ⟨o, es, ep, e, r⟩ := fr.toInCall.ns; ⟨o, es, ep, hk _ _ (by rw [hL]; exact hlt1) e, r⟩, m1, m2, hx0.at fun b o hb e => hk b o (Nat.lt_trans (Heap.lt_size e) hlt1) (up b o e), fun b o _ e => hk b o (Nat.lt_trans (Heap.lt_size e) hlt1) (up b o e)⟩
  · rintro i h h' ⟨m, hns, q1, q2, hc, hk⟩ hk'
    have far : ∀ b, @LT.lt Nat _ b s.heap.objs.size → b ≠ h₁.objs.size := fun b hb => neA (by omega)
    have far' : s.heap.objs.size ≠ h₁.objs.size := neA (by omega)
    refine ⟨m, let ⟨o, es, ep, e, r⟩ := hns; ⟨o, es, ep, hk' _ _ (by rw [hL]; exact far') e, r⟩, q1, q2, hc.at fun b o hb e => hk' b o (far b (by rcases hb with rfl | rfl; exact hlt.1; exact hlt.2.1)) e, fun b o hb e => hk' b o (far b (Heap.lt_size e)) (hk b o hb e)⟩
  · rintro i k tk h tk' E'' hi ⟨m, hns, q1, q2, hc, hk⟩ hk'
    have W₂ : Wd w h := W.low fun b o hb e => hk b o (neA (by have := hx.gt; omega)) e
    refine wpAny_storeName_local kK hns (fun h₂ hn₂ hs₂ => ?_) (by rw [kF]; rfl)
    have hk₂ : ∀ b o, b ≠ x → s.heap.get? b = some o → h₂.get? b = some o := fun b o hb e => (hs₂.2 b (by rw [hL]; exact neA (by have := Heap.lt_size e; exact Nat.ne_of_lt this))).trans (hk b o hb e)
    have W₃ : Wd w h₂ := W.low fun b o hb e => hk₂ b o (neA (by have := hx.gt; omega)) e
    have t₂ : TT w h₂ a D := t.but hx hne hk₂
    have hc₂ : Crd w h₂ x dx (D.take i) := hc.at fun b o hb e => (hs₂.2 b (by rw [hL]; exact neA (by rcases hb with rfl | rfl; exact Nat.ne_of_lt hlt.1; exact Nat.ne_of_lt hlt.2.1))).trans e
    obtain ⟨v, hv⟩ : ∃ v, D[i]? = some (k, v) := by
      rw [List.getElem?_map] at hi
      obtain ⟨p, hp, rfl⟩ := Option.map_eq_some_iff.mp hi
      exact ⟨p.2, hp⟩
    have hn := t.nodup
    have n1 : Nm env h₂ "self" (.ref x) := nm_local kF kS hn₂ (mset q1)
    have n2 : Nm env h₂ "items" (.ref a) := nm_local kF kI hn₂ (mset q2)
    have n3 : Nm env h₂ "key" (.str k tk) := nm_local kF kK hn₂ (by simp)
    refine wpAny_execs_cons (wpAny_Assign_Subscript ?_)
    refine pe_sub n2 n3 (t₂.tb W₃) (lk_at hn hv) _ _ _ _ (rm.deeper.le (by decide)) (fun _ _ e => e) fun y s' ks ⟨t, ht⟩ => ?_
    subst ht
    obtain ⟨h₃, t₃, rfl, k₃⟩ := ks
    refine (n1 _ _) _ _ _ _ k₃ ((n3 _ _) _ _ _ _ k₃ ?_)
    obtain ⟨kvs, dl, fa, ed⟩ := hc₂
    have W₄ := W₃.keeps k₃
    refine dl_setItem (dl.keeps k₃) (dcls_ctr W₄.K) (strKind_is _ _ _ _) (fun h₄ x₄ s₄ => ?_) ?_
    · refine wpAny_execs_nil ⟨rfl, h₄, _, rfl, ⟨_, (hn₂.keeps k₃).sameBut s₄ ?_, ?_, ?_, ?_, ?_⟩, ?_⟩
      · rw [hL]; exact neA (Nat.ne_of_gt hlt.1)
      · exact mset q1
      · exact mset q2
      · have := fa.put k v t
        rw [take_st hn hv] at this
        exact ⟨_, x₄, this, (s₄.2 _ (Ne.symm hlt.2.2)).trans (k₃ _ _ ed)⟩
      · exact fun b o hb e => (s₄.2 b hb).trans (k₃ _ _ (hk₂ b o hb e))
      · intro b o hb e
        have hbx : b ≠ x := fun z => hb (by rw [z]; exact .tail _ (.head _))
        have hbL : b ≠ env.locals := fun z => hb (by rw [z]; exact .head _)
        exact (s₄.2 b hbx).trans (k₃ _ _ ((hs₂.2 b hbL).trans e))
    · have := fa.length
      rw [List.length_take] at this
      rw [sizeLine_eq]; omega
  · intro h tk ⟨m, hns, q1, q2, hc, hk⟩ hk'
    rw [List.take_length] at hc
    exact wpAny_execs_nil (wpAny_execs_nil (hR h tk hk hc.cr))
end Mine
end

section
open PySem PySem.W PyProof.Rows PySem.Calls Builtin
set_option linter.unusedVariables false
namespace Mine
set_option maxRecDepth 100000
set_option maxHeartbeats 4000000

abbrev LetterAt (ks : List Str) (i : Nat) (v : Value) : Prop := ∃ k tk, ks[i]? = some k ∧ v = .str k tk
def IterOf (w : World) (h : Heap) (v : Value) (ks : List Str) (fr : List Addr) : Prop := ∀ (A : Around) (E : Value → Shared → Prop) (Q : Value → Shared → Prop) (s : Shared), A.handled = none →
  (∀ b ∈ fr, ∀ o, h.get? b = some o → s.heap.get? b = some o) →
  (∀ o St, Walks pg w A s.heap.objs.size (s.heap.objs.size :: fr) [s.heap.objs.size] ks.length (LetterAt ks) St → St 0 (s.heap.push o) → Q (.ref s.heap.objs.size) { s with heap := s.heap.push o }) →
  wpAny (model pg w) A (pyIter v) Q E s
def NotDict (w : World) (h : Heap) (v : Value) (fr : List Addr) : Prop := ∀ (A : Around) (E : Value → Shared → Prop) (Q : Value → Shared → Prop) (s : Shared),
  (∀ b ∈ fr, ∀ o, h.get? b = some o → s.heap.get? b = some o) → (∀ tk, Q (.bool false) { s with toks := tk }) → wpAny (model pg w) A (call (.builtin "isinstance") [v, .type "dict"]) Q E s

def inc (D : Ct) (k : Str) : Ct := st D k ((lk D k).getD 0 + 1)
def cnt (ks : List Str) : Ct := ks.foldl inc []
theorem cnt_snoc (ks : List Str) (k : Str) : cnt (ks ++ [k]) = inc (cnt ks) k := by simp [cnt]
theorem cnt_len (ks : List Str) : ∀ D : Ct, (ks.foldl inc D).length ≤ D.length + ks.length := by
  induction ks with
  | nil => intro D; simp
  | cons k r ih =>
    intro D
    rw [List.foldl_cons]
    have h1 := ih (inc D k)
    have h2 : (inc D k).length ≤ D.length + 1 := st_len D k _
    rw [List.length_cons]; omega

theorem walks_mono_P {w : World} {A : Around} {I : Addr} {fp wr : List Addr} {n n' : Nat} {P P' : Nat → Value → Prop} {St : Nat → Heap → Prop} (W : Walks pg w A I fp wr n P St) (hn : n = n') (hp : ∀ i v, i < n → P i v → P' i v) : Walks pg w A I fp wr n' P' St := by
  subst hn
  exact { sub := W.sub, frame := W.frame, done := W.done, self := W.self, item := fun i s Q E hi hs hQ => W.item i s Q E hi hs fun v h' tk p s' k => hQ v h' tk (hp i v hi p) s' k }

section
variable {w : World} {h : Heap}
theorem iter_list {l : Addr} {items : Array Value} {ks : List Str} (hl : h.IsList l items) (hs : items.size = ks.length) (hi : ∀ i v, items[i]? = some v → LetterAt ks i v) : IterOf w h (.ref l) ks [l] := by
  intro A E Q s hh hk hQ
  have hl' : s.heap.IsList l items := let ⟨o, ho, r⟩ := hl; ⟨o, hk l (.head _) o ho, r⟩
  have hlt : @LT.lt Nat _ l s.heap.objs.size := let ⟨o, ho, r⟩ := hl'; Heap.lt_size ho
  refine wpAny_pyIter_list hl' (hQ _ _ (walks_mono_P (Walks.list hh _ l (neA (Nat.ne_of_lt hlt)) items) hs fun i v _ p => hi i v p) ⟨⟨_, Heap.get?_push_size _ rfl, rfl, rfl⟩, hl'.push _⟩)
theorem iter_tuple {l : Addr} (hl : h.IsTuple l #[]) : IterOf w h (.ref l) [] [l] := by
  intro A E Q s hh hk hQ
  have hl' : s.heap.IsTuple l #[] := let ⟨o, ho, r⟩ := hl; ⟨o, hk l (.head _) o ho, r⟩
  have hlt : @LT.lt Nat _ l s.heap.objs.size := let ⟨o, ho, r⟩ := hl'; Heap.lt_size ho
  refine wpAny_pyIter_tuple hl' (hQ _ _ (walks_mono_P (Walks.tuple hh _ l (neA (Nat.ne_of_lt hlt)) #[]) rfl fun i v hi _ => by simp at hi) ⟨⟨_, Heap.get?_push_size _ rfl, rfl, rfl⟩, let ⟨o, ho, r⟩ := hl'; ⟨o, Heap.get?_push_of_some _ ho, r⟩⟩)
theorem iter_str {x : Str} {t : Tok} : IterOf w h (.str x t) (x.cps.toList.map fun c => ⟨#[c]⟩) [] := by
  intro A E Q s hh hk hQ
  refine wpAny_pyIter_str fun o St W hst => hQ o St (walks_mono_P (W A hh) (by simp) fun i v hi p => ?_) hst
  obtain ⟨c, tk, hc, rfl⟩ := p
  exact ⟨⟨#[c]⟩, tk, by rw [List.getElem?_map]; simp [hc], rfl⟩
theorem nd_list {l : Addr} {items : Array Value} (hl : h.IsList l items) : NotDict w h (.ref l) [l] := by
  intro A E Q s hk q
  obtain ⟨o, ho, hc, _⟩ := hl
  exact IsiPair.list_dict (hk l (.head _) o ho) hc (q _)
theorem nd_tuple {l : Addr} {items : Array Value} (hl : h.IsTuple l items) : NotDict w h (.ref l) [l] := by
  intro A E Q s hk q
  obtain ⟨o, ho, hc, _⟩ := hl
  exact IsiPair.tuple_dict (hk l (.head _) o ho) hc (q _)
theorem nd_str {x : Str} {t : Tok} : NotDict w h (.str x t) [] := fun A E Q s hk q => IsiPair.str_dict (q _)
end

theorem c_init_seq {w : World} {A : Around} {s : Shared} {R : Result → Shared → Prop} {x : Addr} {v : Value} {ks : List Str} {fr' : List Addr} {pos : List Value} (rm : Rm 40 A) (W : Wd w s.heap) (hx : Cr w s.heap x [])
    (hpos : pos = [v] ∨ (pos = [] ∧ v = .ref 22)) (hit : IterOf w s.heap v ks fr') (hnd : NotDict w s.heap v fr') (hfr : ∀ b ∈ fr', b < s.heap.objs.size ∧ b ≠ x) (hpres : ∀ b ∈ fr', ∃ o, s.heap.get? b = some o) (hlen : ks.length ≤ 1000)
    (hR : ∀ h' tk, (∀ b o, b ≠ x → s.heap.get? b = some o → h'.get? b = some o) → Cr w h' x (cnt ks) → R (.ok (.ret .none)) { s with heap := h', toks := tk }) :
    codeAny (model pg w) A (.call (.ref 30) ⟨.ref x :: pos, []⟩) R s := by
  refine call_fn (binds := [("self", .ref x), ("items", v)]) (rm.le (by decide)) W rfl (by kernel_rfl) rfl ?hb (by kernel_rfl) (by kernel_rfl) ?_ (by kernel_rfl) (by kernel_rfl) (by kernel_rfl)
  case hb =>
    rcases hpos with rfl | ⟨rfl, rfl⟩
    · refine binds_K W.K rfl rfl rfl rfl ?_; kernel_rfl
    · refine binds_K W.K rfl rfl rfl rfl ?_; kernel_rfl
  intro s₁ E' fr
  obtain ⟨h₁, t₁, rfl, up⟩ := fr.done
  have W₁ := W.keeps up
  have hx₁ := hx.keeps up
  obtain ⟨dx, hx0⟩ := hx.crd
  generalize hE : callEnvC _ s.heap.objs.size 30 = env at fr ⊢
  have hL : env.locals = s.heap.objs.size := by rw [← hE]; rfl
  have n_self : Nm env h₁ "self" (.ref x) := nl hE fr.toInCall.ns (by rw [← hE]; kernel_rfl)
  have n_items : Nm env h₁ "items" v := nl hE fr.toInCall.ns (by rw [← hE]; kernel_rfl)
  have n_dict : Nm env h₁ "dict" (.type "dict") := nb hE W₁ (by kernel_rfl) (by boot_fast) (by decide)
  have n_isi : Nm env h₁ "isinstance" (.builtin "isinstance") := nb hE W₁ (by kernel_rfl) (by boot_fast) (by decide)
  have hint : interactive env = false := by rw [← hE]; kernel_rfl
  have kK : env.kindOf "key" = some .local := by rw [← hE]; kernel_rfl
  have kS : env.kindOf "self" = some .local := by rw [← hE]; kernel_rfl
  have kF : env.scope.kind = .function := by rw [← hE]; kernel_rfl
  have m1 : bindL env.kindOf [("self", .ref x), ("items", v)] (fun _ => none) "self" = some (.ref x) := by rw [← hE]; kernel_rfl
  clear hE
  have hup : ∀ b ∈ fr', ∀ o, s.heap.get? b = some o → h₁.get? b = some o := fun b _ o e => up b o e
  refine wpAny_execs_cons (di_stmt (ic_fr fr) W hx₁ n_dict n_self hint ?_)
  refine wpAny_execs_cons (isi_stmt (b := false) (s := { s with heap := h₁, toks := t₁ + 1 }) n_isi n_dict n_items ?_ ?_)
  · intro Q q
    exact hnd _ _ _ _ hup q
  intro tk₁
  rw [if_neg (by decide)]
  refine wpAny_execs_cons ?_
  have hlt := hx0.lt
  have hlt1 : @LT.lt Nat _ s.heap.objs.size h₁.objs.size := by
    obtain ⟨o, es, ep, e, _⟩ := fr.toInCall.ns
    have := Heap.lt_size e
    rw [hL] at this
    exact this
  refine wpAny_For ((n_items _ _) _ _ _ _ (fun _ _ e => e) (hit _ _ _ _ rm.1 hup fun o St Wk hst => ?_))
  have up2 : Up h₁ (h₁.push o) := fun b o' e => Heap.get?_push_of_some _ e
  refine for_core (s := { s with heap := h₁.push o, toks := tk₁ }) (wr := [env.locals, x]) Wk
    (fun i h => ∃ m, h.Ns env.locals m ∧ m "self" = some (.ref x) ∧ Crd w h x dx (cnt (ks.take i)) ∧ ∀ b o, b ≠ x → s.heap.get? b = some o → h.get? b = some o) hst ?_ ?_ ?_ ?_ ?_
  · exact ⟨_, fr.toInCall.ns.keeps up2, m1, hx0.at fun b o' hb e => up2 _ _ (up b o' e), fun b o' _ e => up2 _ _ (up b o' e)⟩
  · intro b hb hb'
    rcases List.mem_cons.mp hb with rfl | hb
    · rcases List.mem_cons.mp hb' with e | hb'
      · rw [hL] at e; exact absurd e (Nat.ne_of_gt hlt1)
      · rcases List.mem_cons.mp hb' with e | hb'
        · have := hlt.1; exact absurd e (Nat.ne_of_gt (Nat.lt_trans this hlt1))
        · cases hb'
    · rcases List.mem_cons.mp hb' with e | hb'
      · have := (hfr b hb).1; rw [e, hL] at this; exact absurd this (Nat.lt_irrefl _)
      · rcases List.mem_cons.mp hb' with e | hb'
        · exact (hfr b hb).2 e
        · cases hb'
  · rintro i h h' ⟨m, hns, q1, hc, hk⟩ hk'
    have far : ∀ b, @LT.lt Nat _ b h₁.objs.size → b ∉ [h₁.objs.size] := fun b hb => nin1 (by omega)
    exact ⟨m, let ⟨o, es, ep, e, r⟩ := hns; ⟨o, es, ep, hk' _ _ (by rw [hL]; exact far _ hlt1) e, r⟩, q1, hc.at fun b o hb e => hk' b o (far b (by rcases hb with rfl | rfl; exact Nat.lt_trans hlt.1 hlt1; exact Nat.lt_trans hlt.2.1 hlt1)) e, fun b o hb e => hk' b o (far b (Nat.lt_trans (Heap.lt_size e) hlt1)) (hk b o hb e)⟩
  · rintro i _ h tk' E'' hi ⟨k, tk, hki, rfl⟩ ⟨m, hns, q1, hc, hk⟩ hk'
    refine wpAny_assign_Name ?_
    refine wpAny_storeName_local kK hns (fun h₂ hn₂ hs₂ => ?_) (by rw [kF]; rfl)
    have hk₂ : ∀ b o, b ≠ x → s.heap.get? b = some o → h₂.get? b = some o := fun b o hb e => (hs₂.2 b (by rw [hL]; exact neA (by have := Heap.lt_size e; exact Nat.ne_of_lt this))).trans (hk b o hb e)
    have W₃ : Wd w h₂ := W.low fun b o hb e => hk₂ b o (neA (by have := hx.gt; omega)) e
    have hc₂ : Crd w h₂ x dx (cnt (ks.take i)) := hc.at fun b o hb e => (hs₂.2 b (by rw [hL]; exact neA (by rcases hb with rfl | rfl; exact Nat.ne_of_lt hlt.1; exact Nat.ne_of_lt hlt.2.1))).trans e
    have n1 : Nm env h₂ "self" (.ref x) := nm_local kF kS hn₂ (mset q1)
    have n3 : Nm env h₂ "key" (.str k tk) := nm_local kF kK hn₂ (by simp)
    refine wpAny_execs_cons (wpAny_Assign_Subscript ?_)
    refine pe_add (pe_get n1 n3 (hc₂.cr.tb W₃)) pe_int _ _ _ _ (rm.deeper.le (by decide)) (fun _ _ e => e) fun y s' ks' ⟨t, ht⟩ => ?_
    subst ht
    obtain ⟨h₃, t₃, rfl, k₃⟩ := ks'
    refine (n1 _ _) _ _ _ _ k₃ ((n3 _ _) _ _ _ _ k₃ ?_)
    obtain ⟨kvs, dl, fa, ed⟩ := hc₂
    have W₄ := W₃.keeps k₃
    refine dl_setItem (dl.keeps k₃) (dcls_ctr W₄.K) (strKind_is _ _ _ _) (fun h₄ x₄ s₄ => ?_) ?_
    · refine wpAny_execs_nil ⟨rfl, h₄, _, rfl, ⟨_, (hn₂.keeps k₃).sameBut s₄ ?_, mset q1, ?_, ?_⟩, ?_⟩
      · rw [hL]; exact neA (Nat.ne_of_gt hlt.1)
      · have := fa.put k ((lk (cnt (ks.take i)) k).getD 0 + 1) t
        have e2 : cnt (ks.take (i + 1)) = st (cnt (ks.take i)) k ((lk (cnt (ks.take i)) k).getD 0 + 1) := by
          rw [List.take_add_one, hki]
          exact cnt_snoc _ _
        rw [e2]
        exact ⟨_, x₄, this, (s₄.2 _ (Ne.symm hlt.2.2)).trans (k₃ _ _ ed)⟩
      · exact fun b o hb e => (s₄.2 b hb).trans (k₃ _ _ (hk₂ b o hb e))
      · intro b o hb e
        have hbx : b ≠ x := fun z => hb (by rw [z]; exact .tail _ (.head _))
        have hbL : b ≠ env.locals := fun z => hb (by rw [z]; exact .head _)
        exact (s₄.2 b hbx).trans (k₃ _ _ ((hs₂.2 b hbL).trans e))
    · have h1 := fa.length
      have h2 := cnt_len (ks.take i) []
      rw [List.length_take] at h2
      have h3 : (cnt (ks.take i)).length ≤ 0 + min i ks.length := h2
      rw [sizeLine_eq]; omega
  · intro h tk ⟨m, hns, q1, hc, hk⟩ hk'
    rw [List.take_length] at hc
    exact wpAny_execs_nil (wpAny_execs_nil (hR h tk hk hc.cr))
end Mine
end

section
open PySem PySem.W PyProof.Rows PySem.Calls Builtin
set_option linter.unusedVariables false
namespace Mine
set_option maxRecDepth 100000
set_option maxHeartbeats 4000000

theorem fresh_ctr {w : World} {h : Heap} (W : Wd w h) : Cr w ((h.push emptyDict).push (ctrObj h.objs.size)) (h.objs.size + 1) [] := by
  refine ⟨h.objs.size, [], ⟨0, ?_, #[], ?_, ?_, Pairs.nil, List.nodup_nil⟩, FA.nil, ?_⟩
  · have := W.size; omega
  · have : (h.push emptyDict).objs.size = h.objs.size + 1 := Heap.size_push ..
    rw [← this]; exact Heap.get?_push_size _ rfl
  · intro e he; simp at he
  · exact Heap.get?_push_of_some _ (Heap.get?_push_size _ rfl)

section
variable {w : World} {A : Around} {E : Value → Shared → Prop} {s : Shared}
theorem ctr_tb {a : Addr} {D : Ct} {Q : Value → Shared → Prop} (rm : Rm 50 A) (W : Wd w s.heap) (t : TT w s.heap a D) (hlen : D.length ≤ 1000)
    (hQ : ∀ y h' tk, Up s.heap h' → @LE.le Nat _ s.heap.objs.size y → Cr w h' y D → Q (.ref y) { s with heap := h', toks := tk }) : wpAny (model pg w) A (call (.ref 67) [.ref a]) Q E s := by
  obtain ⟨h, g, d, tk, os⟩ := s
  have up : Up h ((h.push emptyDict).push (ctrObj h.objs.size)) := fun b o e => Heap.get?_push_of_some _ (Heap.get?_push_of_some _ e)
  have hlt := (t.tb W).lt
  refine wpAny_call (make_ctr W.K (c_init_tb (s := ⟨_, g, d, tk, os⟩) (rm.make.le (by decide)) (W.keeps up) (fresh_ctr W) (t.keeps up) (neA (Nat.ne_of_lt (Nat.lt_succ_of_lt hlt))) hlen fun h' tk' k c => ⟨rfl, ?_⟩))
  refine hQ _ h' tk' (fun b o e => k b o ?_ (up b o e)) (Nat.le_succ _) c
  exact neA (Nat.ne_of_lt (Nat.lt_succ_of_lt (Heap.lt_size e)))

theorem ctr_seq {v : Value} {ks : List Str} {fr' : List Addr} {pos : List Value} {Q : Value → Shared → Prop} (rm : Rm 50 A) (W : Wd w s.heap)
    (hpos : pos = [v] ∨ (pos = [] ∧ v = .ref 22)) (hit : IterOf w s.heap v ks fr') (hnd : NotDict w s.heap v fr') (hpres : ∀ b ∈ fr', ∃ o, s.heap.get? b = some o) (hlen : ks.length ≤ 1000)
    (hQ : ∀ y h' tk, Up s.heap h' → @LE.le Nat _ s.heap.objs.size y → Cr w h' y (cnt ks) → Q (.ref y) { s with heap := h', toks := tk }) : wpAny (model pg w) A (call (.ref 67) pos) Q E s := by
  obtain ⟨h, g, d, tk, os⟩ := s
  have up : Up h ((h.push emptyDict).push (ctrObj h.objs.size)) := fun b o e => Heap.get?_push_of_some _ (Heap.get?_push_of_some _ e)
  have upf : ∀ s' : Shared, (∀ b ∈ fr', ∀ o, ((h.push emptyDict).push (ctrObj h.objs.size)).get? b = some o → s'.heap.get? b = some o) → ∀ b ∈ fr', ∀ o, h.get? b = some o → s'.heap.get? b = some o := fun s' k b hb o e => k b hb o (up b o e)
  refine wpAny_call (make_ctr W.K (c_init_seq (s := ⟨_, g, d, tk, os⟩) (fr' := fr') (rm.make.le (by decide)) (W.keeps up) (fresh_ctr W) hpos (fun A E Q s hh k q => hit A E Q s hh (upf s k) q) (fun A E Q s k q => hnd A E Q s (upf s k) q)
    (fun b hb => ?_) (fun b hb => let ⟨o, e⟩ := hpres b hb; ⟨o, up _ _ e⟩) hlen fun h' tk' k c => ⟨rfl, ?_⟩))
  · obtain ⟨o, e⟩ := hpres b hb
    exact ⟨Heap.lt_size (up _ _ e), neA (Nat.ne_of_lt (Nat.lt_succ_of_lt (Heap.lt_size e)))⟩
  · refine hQ _ h' tk' (fun b o e => k b o ?_ (up b o e)) (Nat.le_succ _) c
    exact neA (Nat.ne_of_lt (Nat.lt_succ_of_lt (Heap.lt_size e)))

theorem e_ctr1 {env : Env} {e : Expr} {p pos : Pos} {Q : Value → Shared → Prop} (W : Wd w s.heap) (n : Nm env s.heap "Counter" (.ref 67))
    (h : wpAny (model pg w) A (eval e env) (fun v s₁ => (KH w).In s₁.heap ∧ wpAny (model pg w) A (call (.ref 67) [v]) Q E s₁) E s)
    (he : starEach [e] env = [(false, eval e env)] := by rfl) : wpAny (model pg w) A (eval (.Call (.Name "Counter" p) [e] [] pos) env) Q E s := by
  refine wpAny_Call_Name_kw ((n _ _).here ?_)
  refine callWith_K W.K (by kernel_rfl) ?_ he rfl
  rw [he]
  exact spliced_cons (wpAny_mono h (fun v s₁ h₁ => spliced_nil h₁) fun _ _ e => e)
theorem e_ctr0 {env : Env} {p pos : Pos} {Q : Value → Shared → Prop} (W : Wd w s.heap) (n : Nm env s.heap "Counter" (.ref 67))
    (h : wpAny (model pg w) A (call (.ref 67) []) Q E s) : wpAny (model pg w) A (eval (.Call (.Name "Counter" p) [] [] pos) env) Q E s := by
  refine wpAny_Call_Name_kw ((n _ _).here ?_)
  exact callWith_K0 W.K (by kernel_rfl) h
end

theorem c_copy {w : World} {A : Around} {s : Shared} {R : Result → Shared → Prop} {x : Addr} {D : Ct} (rm : Rm 60 A) (W : Wd w s.heap) (hx : Cr w s.heap x D) (hlen : D.length ≤ 1000)
    (hR : ∀ y h' tk, Up s.heap h' → @LE.le Nat _ s.heap.objs.size y → Cr w h' y D → R (.ok (.ret (.ref y))) { s with heap := h', toks := tk }) :
    codeAny (model pg w) A (.call (.ref 37) ⟨[.ref x], []⟩) R s := by
  refine call_fn (binds := [("self", .ref x)]) (rm.le (by decide)) W rfl (by kernel_rfl) rfl (BindsTo.of_eq (by kernel_rfl)) (by kernel_rfl) (by kernel_rfl) ?_ (by kernel_rfl) (by kernel_rfl) (by kernel_rfl)
  intro s₁ E' fr
  obtain ⟨h₁, t₁, rfl, up⟩ := fr.done
  have W₁ := W.keeps up
  generalize hE : callEnvC _ s.heap.objs.size 37 = env at fr ⊢
  have n_self : Nm env h₁ "self" (.ref x) := nl hE fr.toInCall.ns (by rw [← hE]; kernel_rfl)
  have n_C : Nm env h₁ "Counter" (.ref 67) := ng hE W₁ (by kernel_rfl)
  clear hE
  refine wpAny_execs_cons (wpAny_Return_some (e_ctr1 W₁ n_C ?_))
  refine (n_self _ _) _ _ _ _ (fun _ _ e => e) ⟨W₁.K, ctr_tb (rm.deeper.le (by decide)) W₁ (.inl (hx.keeps up)) hlen fun y h' tk k l c => ?_⟩
  refine hR y h' tk (fun b o e => k b o (up b o e)) ?_ c
  have hle : s.heap.objs.size ≤ h₁.objs.size := by
    obtain ⟨o, es, ep, e, _⟩ := fr.toInCall.ns
    have h1 := Heap.lt_size e
    have h2 := fr.toInCall.fresh
    exact Nat.le_of_lt (Nat.lt_of_le_of_lt h2 h1)
  exact Nat.le_trans hle l
end Mine
end

section
open PySem PySem.W PyProof.Rows PySem.Calls Builtin
set_option linter.unusedVariables false
namespace Mine
set_option maxRecDepth 100000
set_option maxHeartbeats 4000000

def andD (D1 D2 : Ct) : Ct := ((D1.map (·.1)).filter fun k => (lk D2 k).isSome && decide (0 < min ((lk D1 k).getD 0) ((lk D2 k).getD 0))).map fun k => (k, min ((lk D1 k).getD 0) ((lk D2 k).getD 0))

theorem size_lt {s₀ s : Shared} {L : Addr} {m cm : Str → Option Value} {cs : List (Str × Addr)} (x : InCallC s₀ L m cs cm s) : @LE.le Nat _ s₀.heap.objs.size s.heap.objs.size := by
  obtain ⟨o, es, ep, e, _⟩ := x.toInCall.ns
  exact Nat.le_of_lt (Nat.lt_of_le_of_lt x.toInCall.fresh (Heap.lt_size e))

theorem andD_len (D1 D2 : Ct) : (andD D1 D2).length ≤ D1.length := by
  unfold andD
  rw [List.length_map]
  exact Nat.le_trans (List.length_filter_le _ _) (by rw [List.length_map]; exact Nat.le_refl _)
theorem getD_of {D : Ct} {k : Str} {i : Int} (e : lk D k = some i) : (lk D k).getD 0 = i := by rw [e]; rfl
theorem lk_getD {D : Ct} {k : Str} (h : k ∈ D.map (·.1)) : lk D k = some ((lk D k).getD 0) := by obtain ⟨v, e⟩ := lk_mem h; rw [e]; rfl
theorem lk_getD' {D : Ct} {k : Str} (h : (lk D k).isSome = true) : lk D k = some ((lk D k).getD 0) := by obtain ⟨v, e⟩ := Option.isSome_iff_exists.mp h; rw [e]; rfl

theorem c_and {w : World} {A : Around} {s : Shared} {R : Result → Shared → Prop} {x y : Addr} {D1 D2 : Ct} (rm : Rm 60 A) (W : Wd w s.heap) (hx : Cr w s.heap x D1) (hy : Cr w s.heap y D2) (hlen : D1.length ≤ 1000)
    (hR : ∀ z h' tk, Up s.heap h' → @LE.le Nat _ s.heap.objs.size z → Cr w h' z (andD D1 D2) → R (.ok (.ret (.ref z))) { s with heap := h', toks := tk }) :
    codeAny (model pg w) A (.call (.ref 42) ⟨[.ref x, .ref y], []⟩) R s := by
  refine call_fn (binds := [("self", .ref x), ("other", .ref y)]) (rm.le (by decide)) W rfl (by kernel_rfl) rfl (BindsTo.of_eq (by kernel_rfl)) (by kernel_rfl) (by kernel_rfl) ?_ (by kernel_rfl) (by kernel_rfl) (by kernel_rfl)
  intro s₁ E' fr
  obtain ⟨h₁, t₁, rfl, up⟩ := fr.done
  have W₁ := W.keeps up
  have hle := size_lt fr
  generalize hE : callEnvC _ s.heap.objs.size 42 = env at fr ⊢
  have c1 : h₁.IsCell (s.heap.objs.size + 1) (some (.ref x)) := by
    have := fr.cell "self" (s.heap.objs.size + 1) (by rw [← hE]; kernel_rfl)
    rw [← hE] at this
    exact this
  have c2 : h₁.IsCell (s.heap.objs.size + 2) (some (.ref y)) := by
    have := fr.cell "other" (s.heap.objs.size + 2) (by rw [← hE]; kernel_rfl)
    rw [← hE] at this
    exact this
  have n_self : Nm env h₁ "self" (.ref x) := nc hE c1 (by kernel_rfl)
  have n_C : Nm env h₁ "Counter" (.ref 67) := ng hE W₁ (by kernel_rfl)
  refine wpAny_execs_cons (wpAny_Return_some (e_ctr1 W₁ n_C ?_))
  refine dcomp (cl := [("self", s.heap.objs.size + 1), ("other", s.heap.objs.size + 2)]) (fun k => (lk D2 k).isSome && decide (0 < min ((lk D1 k).getD 0) ((lk D2 k).getD 0))) (fun k => min ((lk D1 k).getD 0) ((lk D2 k).getD 0)) (rm.deeper.le (by decide)) W₁ ?_ (by decide) rfl (by decide) (by decide) (by decide) n_self ((hx.keeps up).tb W₁) hlen ?_ ?_ ?_
  · rw [← hE]; kernel_rfl
  · intro C h' k tk m hk up' hns hm
    generalize hCE : compEnvC _ _ C env = ce
    have a1 : Nm ce h' "self" (.ref x) := nm_cell (by rw [← hCE]; kernel_rfl) (by rw [← hCE, ← hE]; kernel_rfl) (by rw [← hCE]; kernel_rfl) (let ⟨o, ho, r⟩ := c1; ⟨o, up' _ _ ho, r⟩)
    have a2 : Nm ce h' "other" (.ref y) := nm_cell (by rw [← hCE]; kernel_rfl) (by rw [← hCE, ← hE]; kernel_rfl) (by rw [← hCE]; kernel_rfl) (let ⟨o, ho, r⟩ := c2; ⟨o, up' _ _ ho, r⟩)
    have a3 : Nm ce h' "key" (.str k tk) := nm_local (by rw [← hCE]; kernel_rfl) (by rw [← hCE, ← hE]; kernel_rfl) (m := m) (by rw [← hCE]; exact hns) hm
    have a4 : Nm ce h' "min" (.builtin "min") := nm_builtin (W₁.keeps up') (by rw [← hCE]; kernel_rfl) (by rw [← hCE, ← hE]; kernel_rfl) (by rw [← hCE, ← hE]; kernel_rfl) (by rw [← hCE, ← hE]; kernel_rfl) (by kernel_rfl) (by boot_fast) (by decide)
    have t1 := ((hx.keeps up).tb W₁).keeps up'
    have t2 := ((hy.keeps up).tb W₁).keeps up'
    exact pt_one (pb_and (pb_in a3 a2 t2) fun hs => pb_gt (pe_min a4 (pe_sub a1 a3 t1 (lk_getD hk)) (pe_sub a2 a3 t2 (lk_getD' hs))) pe_int)
  · intro C h' k tk m hk hp up' hns hm
    generalize hCE : compEnvC _ _ C env = ce
    have a1 : Nm ce h' "self" (.ref x) := nm_cell (by rw [← hCE]; kernel_rfl) (by rw [← hCE, ← hE]; kernel_rfl) (by rw [← hCE]; kernel_rfl) (let ⟨o, ho, r⟩ := c1; ⟨o, up' _ _ ho, r⟩)
    have a2 : Nm ce h' "other" (.ref y) := nm_cell (by rw [← hCE]; kernel_rfl) (by rw [← hCE, ← hE]; kernel_rfl) (by rw [← hCE]; kernel_rfl) (let ⟨o, ho, r⟩ := c2; ⟨o, up' _ _ ho, r⟩)
    have a3 : Nm ce h' "key" (.str k tk) := nm_local (by rw [← hCE]; kernel_rfl) (by rw [← hCE, ← hE]; kernel_rfl) (m := m) (by rw [← hCE]; exact hns) hm
    have a4 : Nm ce h' "min" (.builtin "min") := nm_builtin (W₁.keeps up') (by rw [← hCE]; kernel_rfl) (by rw [← hCE, ← hE]; kernel_rfl) (by rw [← hCE, ← hE]; kernel_rfl) (by rw [← hCE, ← hE]; kernel_rfl) (by kernel_rfl) (by boot_fast) (by decide)
    have t1 := ((hx.keeps up).tb W₁).keeps up'
    have t2 := ((hy.keeps up).tb W₁).keeps up'
    exact pe_min a4 (pe_sub a1 a3 t1 (lk_getD hk)) (pe_sub a2 a3 t2 (lk_getD' (Bool.and_eq_true_iff.mp hp).1))
  · intro d h' tk up' hd hdc
    have W₂ := W₁.keeps up'
    have hl := andD_len D1 D2
    refine ⟨W₂.K, ctr_tb (s := { s with heap := h', toks := tk }) (rm.deeper.le (by decide)) W₂ (.inr hdc) (Nat.le_trans hl hlen) fun z h'' tk'' k l c => ?_⟩
    refine hR z h'' tk'' (fun b o e => k b o (up' b o (up b o e))) ?_ c
    have h1 : @LE.le Nat _ h₁.objs.size h'.objs.size := by have := hdc.tb.lt; exact Nat.le_of_lt (Nat.lt_of_le_of_lt hd this)
    exact Nat.le_trans hle (Nat.le_trans h1 l)
end Mine
end

section
open PySem PySem.W PyProof.Rows PySem.Calls Builtin
set_option linter.unusedVariables false
namespace Mine
set_option maxRecDepth 100000
set_option maxHeartbeats 4000000

def mapD (f : Str → Int) (D : Ct) : Ct := ((D.map (·.1)).filter fun _ => true).map fun k => (k, f k)
def posD (r : Ct) : Ct := ((r.map (·.1)).filter fun k => decide (0 < (lk r k).getD 0)).map fun k => (k, (lk r k).getD 0)
def miss1 (r : Ct) (p : Str × Int) : Ct := if (lk r p.1).isSome then r else st r p.1 p.2
def missD (r : Ct) (D : Ct) : Ct := D.foldl miss1 r
def orD (D1 D2 : Ct) : Ct := posD (missD (mapD (fun k => max ((lk D1 k).getD 0) ((lk D2 k).getD 0)) D1) D2)
def addD (D1 D2 : Ct) : Ct := posD (missD (mapD (fun k => (lk D1 k).getD 0 + (lk D2 k).getD 0) D1) D2)
def subD (D1 D2 : Ct) : Ct := posD (mapD (fun k => (lk D1 k).getD 0 - (lk D2 k).getD 0) D1)
theorem mapD_len (f : Str → Int) (D : Ct) : (mapD f D).length ≤ D.length := by
  unfold mapD
  rw [List.length_map]
  exact Nat.le_trans (List.length_filter_le _ _) (by rw [List.length_map]; exact Nat.le_refl _)
theorem posD_len (D : Ct) : (posD D).length ≤ D.length := by
  unfold posD
  rw [List.length_map]
  exact Nat.le_trans (List.length_filter_le _ _) (by rw [List.length_map]; exact Nat.le_refl _)
theorem missD_len (D : Ct) : ∀ r : Ct, (missD r D).length ≤ r.length + D.length := by
  induction D with
  | nil => intro r; exact Nat.le_refl _
  | cons p q ih =>
    intro r
    have h1 := ih (miss1 r p)
    have h2 : (miss1 r p).length ≤ r.length + 1 := by
      unfold miss1; split
      · omega
      · exact st_len _ _ _
    show (missD (miss1 r p) q).length ≤ _
    rw [List.length_cons]; omega
theorem Dc.low {w : World} {h h' : Heap} {a : Addr} {D : Ct} (x : Dc w h a D) (k : ∀ o, h.get? a = some o → h'.get? a = some o) : Dc w h' a D := let ⟨kvs, q, r⟩ := x; ⟨kvs, q.at' k, r⟩
theorem set_dc {w : World} {A : Around} {E : Value → Shared → Prop} {s : Shared} {d : Addr} {D : Ct} {k : Str} {tk t : Tok} {i : Int} {Q : Unit → Shared → Prop} (x : Dc w s.heap d D) (hlen : D.length ≤ 100000)
    (hQ : ∀ h' tk', Dc w h' d (st D k i) → Heap.SameBut d s.heap h' → Q () { s with heap := h', toks := tk' }) : wpAny (model pg w) A (setItem (.ref d) (.str k tk) (.int i t)) Q E s := by
  obtain ⟨kvs, dl, fa⟩ := x
  refine dl_setItem dl (dcls_dict _) (strKind_is _ _ _ _) (fun h₄ x₄ s₄ => hQ h₄ _ ⟨_, x₄, fa.put k i t⟩ s₄) ?_
  have := fa.length
  rw [sizeLine_eq]; omega

theorem c_or {w : World} {A : Around} {s : Shared} {R : Result → Shared → Prop} {x y : Addr} {D1 D2 : Ct} (rm : Rm 60 A) (W : Wd w s.heap) (hx : Cr w s.heap x D1) (hy : Cr w s.heap y D2) (hlen : D1.length ≤ 400) (hlen2 : D2.length ≤ 400)
    (hR : ∀ z h' tk, Up s.heap h' → @LE.le Nat _ s.heap.objs.size z → Cr w h' z (orD D1 D2) → R (.ok (.ret (.ref z))) { s with heap := h', toks := tk }) :
    codeAny (model pg w) A (.call (.ref 47) ⟨[.ref x, .ref y], []⟩) R s := by
  refine call_fn (binds := [("self", .ref x), ("other", .ref y)]) (rm.le (by decide)) W rfl (by kernel_rfl) rfl (BindsTo.of_eq (by kernel_rfl)) (by kernel_rfl) (by kernel_rfl) ?_ (by kernel_rfl) (by kernel_rfl) (by kernel_rfl)
  intro s₁ E' fr
  obtain ⟨h₁, t₁, rfl, up⟩ := fr.done
  have W₁ := W.keeps up
  have hle := size_lt fr
  generalize hE : callEnvC _ s.heap.objs.size 47 = env at fr ⊢
  have hL : env.locals = s.heap.objs.size := by rw [← hE]; rfl
  have c1 : h₁.IsCell (s.heap.objs.size + 1) (some (.ref x)) := by
    have := fr.cell "self" (s.heap.objs.size + 1) (by rw [← hE]; kernel_rfl)
    rw [← hE] at this
    exact this
  have c2 : h₁.IsCell (s.heap.objs.size + 2) (some (.ref y)) := by
    have := fr.cell "other" (s.heap.objs.size + 2) (by rw [← hE]; kernel_rfl)
    rw [← hE] at this
    exact this
  have c30 : h₁.IsCell (s.heap.objs.size + 3) none := by
    have := fr.cell "rows" (s.heap.objs.size + 3) (by rw [← hE]; kernel_rfl)
    rw [← hE] at this
    exact this
  have kF : env.scope.kind = .function := by rw [← hE]; kernel_rfl
  have kR : env.kindOf "rows" = some .cell := by rw [← hE]; kernel_rfl
  have lR : env.cells.lookup ("rows" : Str) = some (s.heap.objs.size + 3) := by rw [← hE]; kernel_rfl
  have kK : env.kindOf "key" = some .local := by rw [← hE]; kernel_rfl
  have n_self : Nm env h₁ "self" (.ref x) := nc hE c1 (by kernel_rfl)
  have ns₁ := fr.toInCall.ns
  refine wpAny_execs_cons (wpAny_Assign_Name ?_ (by rw [← hE]; kernel_rfl))
  refine dcomp (cl := [("self", s.heap.objs.size + 1), ("other", s.heap.objs.size + 2)]) (fun _ => true) (fun k => max ((lk D1 k).getD 0) ((lk D2 k).getD 0)) (rm.deeper.le (by decide)) W₁ (by rw [← hE]; kernel_rfl) (by decide) rfl (by decide) (by decide) (by decide) n_self ((hx.keeps up).tb W₁) (by omega) ?_ ?_ ?_
  · intro C h' k tk m hk up' hns hm
    exact pt_nil
  · intro C h' k tk m hk hp up' hns hm
    generalize hCE : compEnvC _ _ C env = ce
    have a1 : Nm ce h' "self" (.ref x) := nm_cell (by rw [← hCE]; kernel_rfl) (by rw [← hCE, ← hE]; kernel_rfl) (by rw [← hCE]; kernel_rfl) (let ⟨o, ho, r⟩ := c1; ⟨o, up' _ _ ho, r⟩)
    have a2 : Nm ce h' "other" (.ref y) := nm_cell (by rw [← hCE]; kernel_rfl) (by rw [← hCE, ← hE]; kernel_rfl) (by rw [← hCE]; kernel_rfl) (let ⟨o, ho, r⟩ := c2; ⟨o, up' _ _ ho, r⟩)
    have a3 : Nm ce h' "key" (.str k tk) := nm_local (by rw [← hCE]; kernel_rfl) (by rw [← hCE, ← hE]; kernel_rfl) (m := m) (by rw [← hCE]; exact hns) hm
    have a4 : Nm ce h' "max" (.builtin "max") := nm_builtin (W₁.keeps up') (by rw [← hCE]; kernel_rfl) (by rw [← hCE, ← hE]; kernel_rfl) (by rw [← hCE, ← hE]; kernel_rfl) (by rw [← hCE, ← hE]; kernel_rfl) (by kernel_rfl) (by boot_fast) (by decide)
    have t1 := ((hx.keeps up).tb W₁).keeps up'
    have t2 := ((hy.keeps up).tb W₁).keeps up'
    exact pe_max a4 (pe_sub a1 a3 t1 (lk_getD hk)) (pe_get a2 a3 t2)
  intro d h₂ tk₂ up₂ hdl hd₂
  replace hdl : @LE.le Nat _ h₁.objs.size d := hdl
  obtain ⟨R0, hR0⟩ : ∃ R0, R0 = mapD (fun k => max ((lk D1 k).getD 0) ((lk D2 k).getD 0)) D1 := ⟨_, rfl⟩
  replace hd₂ : Dc w h₂ d R0 := by rw [hR0]; exact hd₂
  have hlR : R0.length ≤ D1.length := by rw [hR0]; exact mapD_len _ _
  refine wpAny_storeName_cell kF kR lR (let ⟨o, ho, r⟩ := c30; ⟨o, up₂ _ _ ho, r⟩) fun h₃ c3 s₃ => ?_
  obtain ⟨o3, ho3, _⟩ := id c30
  have hc3 : @LT.lt Nat _ (s.heap.objs.size + 3) h₁.objs.size := Heap.lt_size ho3
  have hds : @LE.le Nat _ s.heap.objs.size d := Nat.le_trans hle hdl
  have nd2 : s.heap.objs.size + 2 ≠ d := neA (by omega)
  have nd3 : s.heap.objs.size + 3 ≠ d := neA (by omega)
  have up₃ : Up s.heap h₃ := fun b o e => (s₃.2 b (neA (by have hb : @LT.lt Nat _ b s.heap.objs.size := Heap.lt_size e; omega))).trans (up₂ b o (up b o e))
  have W₃ := W.keeps up₃
  have hd₃ : Dc w h₃ d R0 := hd₂.low fun o e => (s₃.2 d (Ne.symm nd3)).trans e
  have hd3 : @LT.lt Nat _ d h₃.objs.size := hd₃.tb.lt
  have c2' : h₃.IsCell (s.heap.objs.size + 2) (some (.ref y)) := let ⟨o, ho, r⟩ := c2; ⟨o, (s₃.2 _ (neA (by omega))).trans (up₂ _ _ ho), r⟩
  have ns₃ := (ns₁.keeps up₂).sameBut s₃ (by rw [hL]; exact neA (by omega))
  have hL3 : @LT.lt Nat _ s.heap.objs.size h₃.objs.size := by obtain ⟨o, ho, _⟩ := c2'; have h5 : @LT.lt Nat _ (s.heap.objs.size + 2) h₃.objs.size := Heap.lt_size ho; omega
  replace hL3 : @LT.lt Nat _ s.heap.objs.size h₃.objs.size := hL3
  generalize s.toks = ttt at *
  obtain ⟨tk₃, htk₃⟩ : ∃ tk₃, tk₃ = tk₂ := ⟨_, rfl⟩
  rw [← htk₃]
  refine wpAny_execs_cons (for_tb (s := { s with heap := h₃, toks := tk₃ }) [env.locals, d] (fun i h => (∃ m, h.Ns env.locals m) ∧ h.IsCell (s.heap.objs.size + 2) (some (.ref y)) ∧ h.IsCell (s.heap.objs.size + 3) (some (.ref d)) ∧ Dc w h d (missD R0 (D2.take i)) ∧ Up s.heap h)
    (rm.deeper.le (by decide)) (nc hE c2' (by kernel_rfl)) ((hy.keeps up₃).tb W₃) ?_ ?_ ?_ ?_ ?_ ?_)
  · have := ((hy.tb W).lt)
    exact nin2 (by rw [hL]; omega) (by omega)
  · intro b hb
    rcases List.mem_cons.mp hb with rfl | hb
    · rw [hL]; exact hL3
    · rcases List.mem_cons.mp hb with rfl | hb
      · exact hd3
      · cases hb
  · intro h' hk
    refine ⟨⟨_, (ns₃.at' fun o e => hk _ o (by rw [hL]; exact hL3) e)⟩, let ⟨o, ho, r⟩ := c2'; ⟨o, hk _ _ (Heap.lt_size ho) ho, r⟩, let ⟨o, ho, r⟩ := c3; ⟨o, hk _ _ (Heap.lt_size ho) ho, r⟩, hd₃.low fun o e => hk _ o (Heap.lt_size e) e, fun b o e => hk b o (Heap.lt_size (up₃ b o e)) (up₃ b o e)⟩
  · rintro i h h' ⟨⟨m, q1⟩, q2, q3, q4, q5⟩ hk
    have far : ∀ b, @LT.lt Nat _ b h₃.objs.size → b ≠ h₃.objs.size := fun b hb => neA (by omega)
    refine ⟨⟨m, q1.at' fun o e => hk _ o (far _ (by rw [hL]; exact hL3)) e⟩, let ⟨o, ho, r⟩ := q2; ⟨o, hk _ _ (far _ (by obtain ⟨o', ho', _⟩ := c2'; exact Heap.lt_size ho')) ho, r⟩,
      let ⟨o, ho, r⟩ := q3; ⟨o, hk _ _ (far _ (by obtain ⟨o', ho', _⟩ := c3; exact Heap.lt_size ho')) ho, r⟩, q4.low fun o e => hk _ o (far _ hd3) e, fun b o e => hk b o (far _ (Heap.lt_size (up₃ b o e))) (q5 b o e)⟩
  · rintro i k tk h tk' E'' hi ⟨⟨m, q1⟩, q2, q3, q4, q5⟩ hk'
    refine wpAny_storeName_local kK q1 (fun h₄ hn₄ hs₄ => ?_) (by rw [kF]; rfl)
    have up₄ : Up s.heap h₄ := fun b o e => (hs₄.2 b (by rw [hL]; exact neA (Nat.ne_of_lt (Heap.lt_size e)))).trans (q5 b o e)
    have W₄ := W.keeps up₄
    have q2' : h₄.IsCell (s.heap.objs.size + 2) (some (.ref y)) := let ⟨o, ho, r⟩ := q2; ⟨o, (hs₄.2 _ (by rw [hL]; exact neA (by omega))).trans ho, r⟩
    have q3' : h₄.IsCell (s.heap.objs.size + 3) (some (.ref d)) := let ⟨o, ho, r⟩ := q3; ⟨o, (hs₄.2 _ (by rw [hL]; exact neA (by omega))).trans ho, r⟩
    have q4' : Dc w h₄ d (missD R0 (D2.take i)) := q4.low fun o e => (hs₄.2 _ (by rw [hL]; exact neA (by omega))).trans e
    obtain ⟨v, hv⟩ : ∃ v, D2[i]? = some (k, v) := by
      rw [List.getElem?_map] at hi
      obtain ⟨p, hp, rfl⟩ := Option.map_eq_some_iff.mp hi
      exact ⟨p.2, hp⟩
    have e1 : missD R0 (D2.take (i + 1)) = miss1 (missD R0 (D2.take i)) (k, v) := by
      rw [List.take_add_one, hv]
      simp [missD]
    have n1 : Nm env h₄ "key" (.str k tk) := nm_local kF kK hn₄ (by simp)
    have n2 : Nm env h₄ "rows" (.ref d) := nc hE q3' (by kernel_rfl)
    have n3 : Nm env h₄ "other" (.ref y) := nc hE q2' (by kernel_rfl)
    refine wpAny_execs_cons (wpAny_If ?_)
    refine (pb_notin n1 n2 q4'.tb) _ _ _ _ (rm.deeper.le (by decide)) (fun _ _ e => e) fun s' ks => ?_
    obtain ⟨h₅, t₅, rfl, k₅⟩ := ks
    cases hs : (lk (missD R0 (D2.take i)) k).isSome with
    | true =>
      rw [if_neg (by decide)]
      refine wpAny_execs_nil (wpAny_execs_nil ⟨rfl, h₅, _, rfl, ⟨⟨_, hn₄.keeps k₅⟩, let ⟨o, ho, r⟩ := q2'; ⟨o, k₅ _ _ ho, r⟩, let ⟨o, ho, r⟩ := q3'; ⟨o, k₅ _ _ ho, r⟩, ?_, fun b o e => k₅ b o (up₄ b o e)⟩, ?_⟩)
      · rw [e1]; unfold miss1; rw [if_pos hs]; exact q4'.keeps k₅
      · intro b o hb e
        have hbL : b ≠ env.locals := fun z => hb (by rw [z]; exact .head _)
        exact k₅ _ _ ((hs₄.2 b hbL).trans e)
    | false =>
      rw [if_pos (by decide)]
      refine wpAny_execs_cons (wpAny_Assign_Subscript ?_)
      refine pe_sub (n3.keeps k₅) (n1.keeps k₅) (((hy.keeps up₄).tb W₄).keeps k₅) (lk_at hy.nodup hv) _ _ _ _ (rm.deeper.le (by decide)) (fun _ _ e => e) fun z s' ks ⟨t, ht⟩ => ?_
      subst ht
      obtain ⟨h₆, t₆, rfl, k₆⟩ := ks
      have k₆' : Up h₄ h₆ := fun b o e => k₆ b o (k₅ b o e)
      refine (n2 _ _) _ _ _ _ k₆' ((n1 _ _) _ _ _ _ k₆' ?_)
      refine set_dc (q4'.keeps k₆') (by have := missD_len (D2.take i) R0; rw [List.length_take] at this; omega) fun h₇ t₇ x₇ s₇ => ?_
      refine wpAny_execs_nil (wpAny_execs_nil ⟨rfl, h₇, _, rfl, ⟨⟨_, (hn₄.keeps k₆').sameBut s₇ (by rw [hL]; exact neA (by omega))⟩, let ⟨o, ho, r⟩ := q2'; ⟨o, (s₇.2 _ nd2).trans (k₆' _ _ ho), r⟩, let ⟨o, ho, r⟩ := q3'; ⟨o, (s₇.2 _ nd3).trans (k₆' _ _ ho), r⟩, ?_, ?_⟩, ?_⟩)
      · rw [e1]; unfold miss1; rw [if_neg (by rw [hs]; decide)]; exact x₇
      · exact fun b o e => (s₇.2 b (neA (by have := Heap.lt_size e; exact Nat.ne_of_lt (Nat.lt_of_lt_of_le this hds)))).trans (k₆' b o (up₄ b o e))
      · intro b o hb e
        have hbL : b ≠ env.locals := fun z => hb (by rw [z]; exact .head _)
        have hbd : b ≠ d := fun z => hb (by rw [z]; exact .tail _ (.head _))
        exact (s₇.2 b hbd).trans (k₆' _ _ ((hs₄.2 b hbL).trans e))
  intro hF tkF ⟨⟨mF, q1⟩, q2, q3, q4, q5⟩ _
  rw [List.take_length] at q4

  have WF := W.keeps q5
  have n_C : Nm env hF "Counter" (.ref 67) := ng hE WF (by kernel_rfl)
  have n_r : Nm env hF "rows" (.ref d) := nc hE q3 (by kernel_rfl)
  have hlF : (missD R0 D2).length ≤ 800 := by have := missD_len D2 R0; omega
  refine wpAny_execs_cons (wpAny_Return_some (e_ctr1 (s := { s with heap := hF, toks := tkF }) WF n_C ?_))
  refine dcomp (s := { s with heap := hF, toks := tkF }) (cl := [("rows", s.heap.objs.size + 3)]) (fun k => decide (0 < (lk (missD R0 D2) k).getD 0)) (fun k => (lk (missD R0 D2) k).getD 0) (rm.deeper.le (by decide)) WF (by rw [← hE]; kernel_rfl) (by decide) rfl (by decide) (by decide) (by decide) n_r q4.tb (by omega) ?_ ?_ ?_
  · intro C h' k tk m hk up' hns hm
    generalize hCE : compEnvC _ _ C env = ce
    have a1 : Nm ce h' "rows" (.ref d) := nm_cell (by rw [← hCE]; kernel_rfl) (by rw [← hCE, ← hE]; kernel_rfl) (by rw [← hCE]; kernel_rfl) (let ⟨o, ho, r⟩ := q3; ⟨o, up' _ _ ho, r⟩)
    have a3 : Nm ce h' "key" (.str k tk) := nm_local (by rw [← hCE]; kernel_rfl) (by rw [← hCE, ← hE]; kernel_rfl) (m := m) (by rw [← hCE]; exact hns) hm
    exact pt_one (pb_gt (pe_sub a1 a3 (q4.tb.keeps up') (lk_getD hk)) pe_int)
  · intro C h' k tk m hk hp up' hns hm
    generalize hCE : compEnvC _ _ C env = ce
    have a1 : Nm ce h' "rows" (.ref d) := nm_cell (by rw [← hCE]; kernel_rfl) (by rw [← hCE, ← hE]; kernel_rfl) (by rw [← hCE]; kernel_rfl) (let ⟨o, ho, r⟩ := q3; ⟨o, up' _ _ ho, r⟩)
    have a3 : Nm ce h' "key" (.str k tk) := nm_local (by rw [← hCE]; kernel_rfl) (by rw [← hCE, ← hE]; kernel_rfl) (m := m) (by rw [← hCE]; exact hns) hm
    exact pe_sub a1 a3 (q4.tb.keeps up') (lk_getD hk)
  · intro e h' tk up' he hdc
    replace hdc : Dc w h' e (posD (missD R0 D2)) := hdc
    have hle' : @LE.le Nat _ hF.objs.size e := he
    have W₅ := WF.keeps up'
    have hl := posD_len (missD R0 D2)
    refine ⟨W₅.K, ctr_tb (s := { s with heap := h', toks := tk }) (rm.deeper.le (by decide)) W₅ (.inr hdc) (by omega) fun z h'' tk'' k l c => ?_⟩
    refine hR z h'' tk'' (fun b o e => k b o (up' b o (q5 b o e))) ?_ (by rw [hR0] at c; exact c)
    have h1 : @LE.le Nat _ hF.objs.size h'.objs.size := by have := hdc.tb.lt; exact Nat.le_of_lt (Nat.lt_of_le_of_lt hle' this)
    have h2 : @LE.le Nat _ s.heap.objs.size hF.objs.size := by have := q4.tb.lt; exact Nat.le_of_lt (Nat.lt_of_le_of_lt hds this)
    exact Nat.le_trans h2 (Nat.le_trans h1 l)

theorem c_add {w : World} {A : Around} {s : Shared} {R : Result → Shared → Prop} {x y : Addr} {D1 D2 : Ct} (rm : Rm 60 A) (W : Wd w s.heap) (hx : Cr w s.heap x D1) (hy : Cr w s.heap y D2) (hlen : D1.length ≤ 400) (hlen2 : D2.length ≤ 400)
    (hR : ∀ z h' tk, Up s.heap h' → @LE.le Nat _ s.heap.objs.size z → Cr w h' z (addD D1 D2) → R (.ok (.ret (.ref z))) { s with heap := h', toks := tk }) :
    codeAny (model pg w) A (.call (.ref 59) ⟨[.ref x, .ref y], []⟩) R s := by
  refine call_fn (binds := [("self", .ref x), ("other", .ref y)]) (rm.le (by decide)) W rfl (by kernel_rfl) rfl (BindsTo.of_eq (by kernel_rfl)) (by kernel_rfl) (by kernel_rfl) ?_ (by kernel_rfl) (by kernel_rfl) (by kernel_rfl)
  intro s₁ E' fr
  obtain ⟨h₁, t₁, rfl, up⟩ := fr.done
  have W₁ := W.keeps up
  have hle := size_lt fr
  generalize hE : callEnvC _ s.heap.objs.size 59 = env at fr ⊢
  have hL : env.locals = s.heap.objs.size := by rw [← hE]; rfl
  have c1 : h₁.IsCell (s.heap.objs.size + 1) (some (.ref x)) := by
    have := fr.cell "self" (s.heap.objs.size + 1) (by rw [← hE]; kernel_rfl)
    rw [← hE] at this
    exact this
  have c2 : h₁.IsCell (s.heap.objs.size + 2) (some (.ref y)) := by
    have := fr.cell "other" (s.heap.objs.size + 2) (by rw [← hE]; kernel_rfl)
    rw [← hE] at this
    exact this
  have c30 : h₁.IsCell (s.heap.objs.size + 3) none := by
    have := fr.cell "rows" (s.heap.objs.size + 3) (by rw [← hE]; kernel_rfl)
    rw [← hE] at this
    exact this
  have kF : env.scope.kind = .function := by rw [← hE]; kernel_rfl
  have kR : env.kindOf "rows" = some .cell := by rw [← hE]; kernel_rfl
  have lR : env.cells.lookup ("rows" : Str) = some (s.heap.objs.size + 3) := by rw [← hE]; kernel_rfl
  have kK : env.kindOf "key" = some .local := by rw [← hE]; kernel_rfl
  have n_self : Nm env h₁ "self" (.ref x) := nc hE c1 (by kernel_rfl)
  have ns₁ := fr.toInCall.ns
  refine wpAny_execs_cons (wpAny_Assign_Name ?_ (by rw [← hE]; kernel_rfl))
  refine dcomp (cl := [("self", s.heap.objs.size + 1), ("other", s.heap.objs.size + 2)]) (fun _ => true) (fun k => (lk D1 k).getD 0 + (lk D2 k).getD 0) (rm.deeper.le (by decide)) W₁ (by rw [← hE]; kernel_rfl) (by decide) rfl (by decide) (by decide) (by decide) n_self ((hx.keeps up).tb W₁) (by omega) ?_ ?_ ?_
  · intro C h' k tk m hk up' hns hm
    exact pt_nil
  · intro C h' k tk m hk hp up' hns hm
    generalize hCE : compEnvC _ _ C env = ce
    have a1 : Nm ce h' "self" (.ref x) := nm_cell (by rw [← hCE]; kernel_rfl) (by rw [← hCE, ← hE]; kernel_rfl) (by rw [← hCE]; kernel_rfl) (let ⟨o, ho, r⟩ := c1; ⟨o, up' _ _ ho, r⟩)
    have a2 : Nm ce h' "other" (.ref y) := nm_cell (by rw [← hCE]; kernel_rfl) (by rw [← hCE, ← hE]; kernel_rfl) (by rw [← hCE]; kernel_rfl) (let ⟨o, ho, r⟩ := c2; ⟨o, up' _ _ ho, r⟩)
    have a3 : Nm ce h' "key" (.str k tk) := nm_local (by rw [← hCE]; kernel_rfl) (by rw [← hCE, ← hE]; kernel_rfl) (m := m) (by rw [← hCE]; exact hns) hm
    have t1 := ((hx.keeps up).tb W₁).keeps up'
    have t2 := ((hy.keeps up).tb W₁).keeps up'
    exact pe_add (pe_sub a1 a3 t1 (lk_getD hk)) (pe_get a2 a3 t2)
  intro d h₂ tk₂ up₂ hdl hd₂
  replace hdl : @LE.le Nat _ h₁.objs.size d := hdl
  obtain ⟨R0, hR0⟩ : ∃ R0, R0 = mapD (fun k => (lk D1 k).getD 0 + (lk D2 k).getD 0) D1 := ⟨_, rfl⟩
  replace hd₂ : Dc w h₂ d R0 := by rw [hR0]; exact hd₂
  have hlR : R0.length ≤ D1.length := by rw [hR0]; exact mapD_len _ _
  refine wpAny_storeName_cell kF kR lR (let ⟨o, ho, r⟩ := c30; ⟨o, up₂ _ _ ho, r⟩) fun h₃ c3 s₃ => ?_
  obtain ⟨o3, ho3, _⟩ := id c30
  have hc3 : @LT.lt Nat _ (s.heap.objs.size + 3) h₁.objs.size := Heap.lt_size ho3
  have hds : @LE.le Nat _ s.heap.objs.size d := Nat.le_trans hle hdl
  have nd2 : s.heap.objs.size + 2 ≠ d := neA (by omega)
  have nd3 : s.heap.objs.size + 3 ≠ d := neA (by omega)
  have up₃ : Up s.heap h₃ := fun b o e => (s₃.2 b (neA (by have hb : @LT.lt Nat _ b s.heap.objs.size := Heap.lt_size e; omega))).trans (up₂ b o (up b o e))
  have W₃ := W.keeps up₃
  have hd₃ : Dc w h₃ d R0 := hd₂.low fun o e => (s₃.2 d (Ne.symm nd3)).trans e
  have hd3 : @LT.lt Nat _ d h₃.objs.size := hd₃.tb.lt
  have c2' : h₃.IsCell (s.heap.objs.size + 2) (some (.ref y)) := let ⟨o, ho, r⟩ := c2; ⟨o, (s₃.2 _ (neA (by omega))).trans (up₂ _ _ ho), r⟩
  have ns₃ := (ns₁.keeps up₂).sameBut s₃ (by rw [hL]; exact neA (by omega))
  have hL3 : @LT.lt Nat _ s.heap.objs.size h₃.objs.size := by obtain ⟨o, ho, _⟩ := c2'; have h5 : @LT.lt Nat _ (s.heap.objs.size + 2) h₃.objs.size := Heap.lt_size ho; omega
  replace hL3 : @LT.lt Nat _ s.heap.objs.size h₃.objs.size := hL3
  generalize s.toks = ttt at *
  obtain ⟨tk₃, htk₃⟩ : ∃ tk₃, tk₃ = tk₂ := ⟨_, rfl⟩
  rw [← htk₃]
  refine wpAny_execs_cons (for_tb (s := { s with heap := h₃, toks := tk₃ }) [env.locals, d] (fun i h => (∃ m, h.Ns env.locals m) ∧ h.IsCell (s.heap.objs.size + 2) (some (.ref y)) ∧ h.IsCell (s.heap.objs.size + 3) (some (.ref d)) ∧ Dc w h d (missD R0 (D2.take i)) ∧ Up s.heap h)
    (rm.deeper.le (by decide)) (nc hE c2' (by kernel_rfl)) ((hy.keeps up₃).tb W₃) ?_ ?_ ?_ ?_ ?_ ?_)
  · have := ((hy.tb W).lt)
    exact nin2 (by rw [hL]; omega) (by omega)
  · intro b hb
    rcases List.mem_cons.mp hb with rfl | hb
    · rw [hL]; exact hL3
    · rcases List.mem_cons.mp hb with rfl | hb
      · exact hd3
      · cases hb
  · intro h' hk
    refine ⟨⟨_, (ns₃.at' fun o e => hk _ o (by rw [hL]; exact hL3) e)⟩, let ⟨o, ho, r⟩ := c2'; ⟨o, hk _ _ (Heap.lt_size ho) ho, r⟩, let ⟨o, ho, r⟩ := c3; ⟨o, hk _ _ (Heap.lt_size ho) ho, r⟩, hd₃.low fun o e => hk _ o (Heap.lt_size e) e, fun b o e => hk b o (Heap.lt_size (up₃ b o e)) (up₃ b o e)⟩
  · rintro i h h' ⟨⟨m, q1⟩, q2, q3, q4, q5⟩ hk
    have far : ∀ b, @LT.lt Nat _ b h₃.objs.size → b ≠ h₃.objs.size := fun b hb => neA (by omega)
    refine ⟨⟨m, q1.at' fun o e => hk _ o (far _ (by rw [hL]; exact hL3)) e⟩, let ⟨o, ho, r⟩ := q2; ⟨o, hk _ _ (far _ (by obtain ⟨o', ho', _⟩ := c2'; exact Heap.lt_size ho')) ho, r⟩,
      let ⟨o, ho, r⟩ := q3; ⟨o, hk _ _ (far _ (by obtain ⟨o', ho', _⟩ := c3; exact Heap.lt_size ho')) ho, r⟩, q4.low fun o e => hk _ o (far _ hd3) e, fun b o e => hk b o (far _ (Heap.lt_size (up₃ b o e))) (q5 b o e)⟩
  · rintro i k tk h tk' E'' hi ⟨⟨m, q1⟩, q2, q3, q4, q5⟩ hk'
    refine wpAny_storeName_local kK q1 (fun h₄ hn₄ hs₄ => ?_) (by rw [kF]; rfl)
    have up₄ : Up s.heap h₄ := fun b o e => (hs₄.2 b (by rw [hL]; exact neA (Nat.ne_of_lt (Heap.lt_size e)))).trans (q5 b o e)
    have W₄ := W.keeps up₄
    have q2' : h₄.IsCell (s.heap.objs.size + 2) (some (.ref y)) := let ⟨o, ho, r⟩ := q2; ⟨o, (hs₄.2 _ (by rw [hL]; exact neA (by omega))).trans ho, r⟩
    have q3' : h₄.IsCell (s.heap.objs.size + 3) (some (.ref d)) := let ⟨o, ho, r⟩ := q3; ⟨o, (hs₄.2 _ (by rw [hL]; exact neA (by omega))).trans ho, r⟩
    have q4' : Dc w h₄ d (missD R0 (D2.take i)) := q4.low fun o e => (hs₄.2 _ (by rw [hL]; exact neA (by omega))).trans e
    obtain ⟨v, hv⟩ : ∃ v, D2[i]? = some (k, v) := by
      rw [List.getElem?_map] at hi
      obtain ⟨p, hp, rfl⟩ := Option.map_eq_some_iff.mp hi
      exact ⟨p.2, hp⟩
    have e1 : missD R0 (D2.take (i + 1)) = miss1 (missD R0 (D2.take i)) (k, v) := by
      rw [List.take_add_one, hv]
      simp [missD]
    have n1 : Nm env h₄ "key" (.str k tk) := nm_local kF kK hn₄ (by simp)
    have n2 : Nm env h₄ "rows" (.ref d) := nc hE q3' (by kernel_rfl)
    have n3 : Nm env h₄ "other" (.ref y) := nc hE q2' (by kernel_rfl)
    refine wpAny_execs_cons (wpAny_If ?_)
    refine (pb_notin n1 n2 q4'.tb) _ _ _ _ (rm.deeper.le (by decide)) (fun _ _ e => e) fun s' ks => ?_
    obtain ⟨h₅, t₅, rfl, k₅⟩ := ks
    cases hs : (lk (missD R0 (D2.take i)) k).isSome with
    | true =>
      rw [if_neg (by decide)]
      refine wpAny_execs_nil (wpAny_execs_nil ⟨rfl, h₅, _, rfl, ⟨⟨_, hn₄.keeps k₅⟩, let ⟨o, ho, r⟩ := q2'; ⟨o, k₅ _ _ ho, r⟩, let ⟨o, ho, r⟩ := q3'; ⟨o, k₅ _ _ ho, r⟩, ?_, fun b o e => k₅ b o (up₄ b o e)⟩, ?_⟩)
      · rw [e1]; unfold miss1; rw [if_pos hs]; exact q4'.keeps k₅
      · intro b o hb e
        have hbL : b ≠ env.locals := fun z => hb (by rw [z]; exact .head _)
        exact k₅ _ _ ((hs₄.2 b hbL).trans e)
    | false =>
      rw [if_pos (by decide)]
      refine wpAny_execs_cons (wpAny_Assign_Subscript ?_)
      refine pe_sub (n3.keeps k₅) (n1.keeps k₅) (((hy.keeps up₄).tb W₄).keeps k₅) (lk_at hy.nodup hv) _ _ _ _ (rm.deeper.le (by decide)) (fun _ _ e => e) fun z s' ks ⟨t, ht⟩ => ?_
      subst ht
      obtain ⟨h₆, t₆, rfl, k₆⟩ := ks
      have k₆' : Up h₄ h₆ := fun b o e => k₆ b o (k₅ b o e)
      refine (n2 _ _) _ _ _ _ k₆' ((n1 _ _) _ _ _ _ k₆' ?_)
      refine set_dc (q4'.keeps k₆') (by have := missD_len (D2.take i) R0; rw [List.length_take] at this; omega) fun h₇ t₇ x₇ s₇ => ?_
      refine wpAny_execs_nil (wpAny_execs_nil ⟨rfl, h₇, _, rfl, ⟨⟨_, (hn₄.keeps k₆').sameBut s₇ (by rw [hL]; exact neA (by omega))⟩, let ⟨o, ho, r⟩ := q2'; ⟨o, (s₇.2 _ nd2).trans (k₆' _ _ ho), r⟩, let ⟨o, ho, r⟩ := q3'; ⟨o, (s₇.2 _ nd3).trans (k₆' _ _ ho), r⟩, ?_, ?_⟩, ?_⟩)
      · rw [e1]; unfold miss1; rw [if_neg (by rw [hs]; decide)]; exact x₇
      · exact fun b o e => (s₇.2 b (neA (by have := Heap.lt_size e; exact Nat.ne_of_lt (Nat.lt_of_lt_of_le this hds)))).trans (k₆' b o (up₄ b o e))
      · intro b o hb e
        have hbL : b ≠ env.locals := fun z => hb (by rw [z]; exact .head _)
        have hbd : b ≠ d := fun z => hb (by rw [z]; exact .tail _ (.head _))
        exact (s₇.2 b hbd).trans (k₆' _ _ ((hs₄.2 b hbL).trans e))
  intro hF tkF ⟨⟨mF, q1⟩, q2, q3, q4, q5⟩ _
  rw [List.take_length] at q4

  have WF := W.keeps q5
  have n_C : Nm env hF "Counter" (.ref 67) := ng hE WF (by kernel_rfl)
  have n_r : Nm env hF "rows" (.ref d) := nc hE q3 (by kernel_rfl)
  have hlF : (missD R0 D2).length ≤ 800 := by have := missD_len D2 R0; omega
  refine wpAny_execs_cons (wpAny_Return_some (e_ctr1 (s := { s with heap := hF, toks := tkF }) WF n_C ?_))
  refine dcomp (s := { s with heap := hF, toks := tkF }) (cl := [("rows", s.heap.objs.size + 3)]) (fun k => decide (0 < (lk (missD R0 D2) k).getD 0)) (fun k => (lk (missD R0 D2) k).getD 0) (rm.deeper.le (by decide)) WF (by rw [← hE]; kernel_rfl) (by decide) rfl (by decide) (by decide) (by decide) n_r q4.tb (by omega) ?_ ?_ ?_
  · intro C h' k tk m hk up' hns hm
    generalize hCE : compEnvC _ _ C env = ce
    have a1 : Nm ce h' "rows" (.ref d) := nm_cell (by rw [← hCE]; kernel_rfl) (by rw [← hCE, ← hE]; kernel_rfl) (by rw [← hCE]; kernel_rfl) (let ⟨o, ho, r⟩ := q3; ⟨o, up' _ _ ho, r⟩)
    have a3 : Nm ce h' "key" (.str k tk) := nm_local (by rw [← hCE]; kernel_rfl) (by rw [← hCE, ← hE]; kernel_rfl) (m := m) (by rw [← hCE]; exact hns) hm
    exact pt_one (pb_gt (pe_sub a1 a3 (q4.tb.keeps up') (lk_getD hk)) pe_int)
  · intro C h' k tk m hk hp up' hns hm
    generalize hCE : compEnvC _ _ C env = ce
    have a1 : Nm ce h' "rows" (.ref d) := nm_cell (by rw [← hCE]; kernel_rfl) (by rw [← hCE, ← hE]; kernel_rfl) (by rw [← hCE]; kernel_rfl) (let ⟨o, ho, r⟩ := q3; ⟨o, up' _ _ ho, r⟩)
    have a3 : Nm ce h' "key" (.str k tk) := nm_local (by rw [← hCE]; kernel_rfl) (by rw [← hCE, ← hE]; kernel_rfl) (m := m) (by rw [← hCE]; exact hns) hm
    exact pe_sub a1 a3 (q4.tb.keeps up') (lk_getD hk)
  · intro e h' tk up' he hdc
    replace hdc : Dc w h' e (posD (missD R0 D2)) := hdc
    have hle' : @LE.le Nat _ hF.objs.size e := he
    have W₅ := WF.keeps up'
    have hl := posD_len (missD R0 D2)
    refine ⟨W₅.K, ctr_tb (s := { s with heap := h', toks := tk }) (rm.deeper.le (by decide)) W₅ (.inr hdc) (by omega) fun z h'' tk'' k l c => ?_⟩
    refine hR z h'' tk'' (fun b o e => k b o (up' b o (q5 b o e))) ?_ (by rw [hR0] at c; exact c)
    have h1 : @LE.le Nat _ hF.objs.size h'.objs.size := by have := hdc.tb.lt; exact Nat.le_of_lt (Nat.lt_of_le_of_lt hle' this)
    have h2 : @LE.le Nat _ s.heap.objs.size hF.objs.size := by have := q4.tb.lt; exact Nat.le_of_lt (Nat.lt_of_le_of_lt hds this)
    exact Nat.le_trans h2 (Nat.le_trans h1 l)

theorem c_sub {w : World} {A : Around} {s : Shared} {R : Result → Shared → Prop} {x y : Addr} {D1 D2 : Ct} (rm : Rm 60 A) (W : Wd w s.heap) (hx : Cr w s.heap x D1) (hy : Cr w s.heap y D2) (hlen : D1.length ≤ 400) (hlen2 : D2.length ≤ 400)
    (hR : ∀ z h' tk, Up s.heap h' → @LE.le Nat _ s.heap.objs.size z → Cr w h' z (subD D1 D2) → R (.ok (.ret (.ref z))) { s with heap := h', toks := tk }) :
    codeAny (model pg w) A (.call (.ref 64) ⟨[.ref x, .ref y], []⟩) R s := by
  refine call_fn (binds := [("self", .ref x), ("other", .ref y)]) (rm.le (by decide)) W rfl (by kernel_rfl) rfl (BindsTo.of_eq (by kernel_rfl)) (by kernel_rfl) (by kernel_rfl) ?_ (by kernel_rfl) (by kernel_rfl) (by kernel_rfl)
  intro s₁ E' fr
  obtain ⟨h₁, t₁, rfl, up⟩ := fr.done
  have W₁ := W.keeps up
  have hle := size_lt fr
  generalize hE : callEnvC _ s.heap.objs.size 64 = env at fr ⊢
  have hL : env.locals = s.heap.objs.size := by rw [← hE]; rfl
  have c1 : h₁.IsCell (s.heap.objs.size + 1) (some (.ref x)) := by
    have := fr.cell "self" (s.heap.objs.size + 1) (by rw [← hE]; kernel_rfl)
    rw [← hE] at this
    exact this
  have c2 : h₁.IsCell (s.heap.objs.size + 2) (some (.ref y)) := by
    have := fr.cell "other" (s.heap.objs.size + 2) (by rw [← hE]; kernel_rfl)
    rw [← hE] at this
    exact this
  have c30 : h₁.IsCell (s.heap.objs.size + 3) none := by
    have := fr.cell "rows" (s.heap.objs.size + 3) (by rw [← hE]; kernel_rfl)
    rw [← hE] at this
    exact this
  have kF : env.scope.kind = .function := by rw [← hE]; kernel_rfl
  have kR : env.kindOf "rows" = some .cell := by rw [← hE]; kernel_rfl
  have lR : env.cells.lookup ("rows" : Str) = some (s.heap.objs.size + 3) := by rw [← hE]; kernel_rfl

  have n_self : Nm env h₁ "self" (.ref x) := nc hE c1 (by kernel_rfl)
  have ns₁ := fr.toInCall.ns
  refine wpAny_execs_cons (wpAny_Assign_Name ?_ (by rw [← hE]; kernel_rfl))
  refine dcomp (cl := [("self", s.heap.objs.size + 1), ("other", s.heap.objs.size + 2)]) (fun _ => true) (fun k => (lk D1 k).getD 0 - (lk D2 k).getD 0) (rm.deeper.le (by decide)) W₁ (by rw [← hE]; kernel_rfl) (by decide) rfl (by decide) (by decide) (by decide) n_self ((hx.keeps up).tb W₁) (by omega) ?_ ?_ ?_
  · intro C h' k tk m hk up' hns hm
    exact pt_nil
  · intro C h' k tk m hk hp up' hns hm
    generalize hCE : compEnvC _ _ C env = ce
    have a1 : Nm ce h' "self" (.ref x) := nm_cell (by rw [← hCE]; kernel_rfl) (by rw [← hCE, ← hE]; kernel_rfl) (by rw [← hCE]; kernel_rfl) (let ⟨o, ho, r⟩ := c1; ⟨o, up' _ _ ho, r⟩)
    have a2 : Nm ce h' "other" (.ref y) := nm_cell (by rw [← hCE]; kernel_rfl) (by rw [← hCE, ← hE]; kernel_rfl) (by rw [← hCE]; kernel_rfl) (let ⟨o, ho, r⟩ := c2; ⟨o, up' _ _ ho, r⟩)
    have a3 : Nm ce h' "key" (.str k tk) := nm_local (by rw [← hCE]; kernel_rfl) (by rw [← hCE, ← hE]; kernel_rfl) (m := m) (by rw [← hCE]; exact hns) hm
    have t1 := ((hx.keeps up).tb W₁).keeps up'
    have t2 := ((hy.keeps up).tb W₁).keeps up'
    exact pe_subt (pe_sub a1 a3 t1 (lk_getD hk)) (pe_get a2 a3 t2)
  intro d h₂ tk₂ up₂ hdl hd₂
  replace hdl : @LE.le Nat _ h₁.objs.size d := hdl
  obtain ⟨R0, hR0⟩ : ∃ R0, R0 = mapD (fun k => (lk D1 k).getD 0 - (lk D2 k).getD 0) D1 := ⟨_, rfl⟩
  replace hd₂ : Dc w h₂ d R0 := by rw [hR0]; exact hd₂
  have hlR : R0.length ≤ D1.length := by rw [hR0]; exact mapD_len _ _
  refine wpAny_storeName_cell kF kR lR (let ⟨o, ho, r⟩ := c30; ⟨o, up₂ _ _ ho, r⟩) fun h₃ c3 s₃ => ?_
  obtain ⟨o3, ho3, _⟩ := id c30
  have hc3 : @LT.lt Nat _ (s.heap.objs.size + 3) h₁.objs.size := Heap.lt_size ho3
  have hds : @LE.le Nat _ s.heap.objs.size d := Nat.le_trans hle hdl
  have nd2 : s.heap.objs.size + 2 ≠ d := neA (by omega)
  have nd3 : s.heap.objs.size + 3 ≠ d := neA (by omega)
  have up₃ : Up s.heap h₃ := fun b o e => (s₃.2 b (neA (by have hb : @LT.lt Nat _ b s.heap.objs.size := Heap.lt_size e; omega))).trans (up₂ b o (up b o e))
  have W₃ := W.keeps up₃
  have hd₃ : Dc w h₃ d R0 := hd₂.low fun o e => (s₃.2 d (Ne.symm nd3)).trans e
  have hd3 : @LT.lt Nat _ d h₃.objs.size := hd₃.tb.lt
  have c2' : h₃.IsCell (s.heap.objs.size + 2) (some (.ref y)) := let ⟨o, ho, r⟩ := c2; ⟨o, (s₃.2 _ (neA (by omega))).trans (up₂ _ _ ho), r⟩
  have ns₃ := (ns₁.keeps up₂).sameBut s₃ (by rw [hL]; exact neA (by omega))
  have hL3 : @LT.lt Nat _ s.heap.objs.size h₃.objs.size := by obtain ⟨o, ho, _⟩ := c2'; have h5 : @LT.lt Nat _ (s.heap.objs.size + 2) h₃.objs.size := Heap.lt_size ho; omega
  replace hL3 : @LT.lt Nat _ s.heap.objs.size h₃.objs.size := hL3
  generalize s.toks = ttt at *
  obtain ⟨tk₃, htk₃⟩ : ∃ tk₃, tk₃ = tk₂ := ⟨_, rfl⟩
  rw [← htk₃]
  have q3 := c3
  have q4 := hd₃
  have q5 := up₃
  generalize h₃ = hF at q3 q4 q5 ⊢
  generalize tk₃ = tkF

  have WF := W.keeps q5
  have n_C : Nm env hF "Counter" (.ref 67) := ng hE WF (by kernel_rfl)
  have n_r : Nm env hF "rows" (.ref d) := nc hE q3 (by kernel_rfl)
  have hlF : (R0).length ≤ 800 := by omega
  refine wpAny_execs_cons (wpAny_Return_some (e_ctr1 (s := { s with heap := hF, toks := tkF }) WF n_C ?_))
  refine dcomp (s := { s with heap := hF, toks := tkF }) (cl := [("rows", s.heap.objs.size + 3)]) (fun k => decide (0 < (lk (R0) k).getD 0)) (fun k => (lk (R0) k).getD 0) (rm.deeper.le (by decide)) WF (by rw [← hE]; kernel_rfl) (by decide) rfl (by decide) (by decide) (by decide) n_r q4.tb (by omega) ?_ ?_ ?_
  · intro C h' k tk m hk up' hns hm
    generalize hCE : compEnvC _ _ C env = ce
    have a1 : Nm ce h' "rows" (.ref d) := nm_cell (by rw [← hCE]; kernel_rfl) (by rw [← hCE, ← hE]; kernel_rfl) (by rw [← hCE]; kernel_rfl) (let ⟨o, ho, r⟩ := q3; ⟨o, up' _ _ ho, r⟩)
    have a3 : Nm ce h' "key" (.str k tk) := nm_local (by rw [← hCE]; kernel_rfl) (by rw [← hCE, ← hE]; kernel_rfl) (m := m) (by rw [← hCE]; exact hns) hm
    exact pt_one (pb_gt (pe_sub a1 a3 (q4.tb.keeps up') (lk_getD hk)) pe_int)
  · intro C h' k tk m hk hp up' hns hm
    generalize hCE : compEnvC _ _ C env = ce
    have a1 : Nm ce h' "rows" (.ref d) := nm_cell (by rw [← hCE]; kernel_rfl) (by rw [← hCE, ← hE]; kernel_rfl) (by rw [← hCE]; kernel_rfl) (let ⟨o, ho, r⟩ := q3; ⟨o, up' _ _ ho, r⟩)
    have a3 : Nm ce h' "key" (.str k tk) := nm_local (by rw [← hCE]; kernel_rfl) (by rw [← hCE, ← hE]; kernel_rfl) (m := m) (by rw [← hCE]; exact hns) hm
    exact pe_sub a1 a3 (q4.tb.keeps up') (lk_getD hk)
  · intro e h' tk up' he hdc
    replace hdc : Dc w h' e (posD (R0)) := hdc
    have hle' : @LE.le Nat _ hF.objs.size e := he
    have W₅ := WF.keeps up'
    have hl := posD_len (R0)
    refine ⟨W₅.K, ctr_tb (s := { s with heap := h', toks := tk }) (rm.deeper.le (by decide)) W₅ (.inr hdc) (by omega) fun z h'' tk'' k l c => ?_⟩
    refine hR z h'' tk'' (fun b o e => k b o (up' b o (q5 b o e))) ?_ (by rw [hR0] at c; exact c)
    have h1 : @LE.le Nat _ hF.objs.size h'.objs.size := by have := hdc.tb.lt; exact Nat.le_of_lt (Nat.lt_of_le_of_lt hle' this)
    have h2 : @LE.le Nat _ s.heap.objs.size hF.objs.size := by have := q4.tb.lt; exact Nat.le_of_lt (Nat.lt_of_le_of_lt hds this)
    exact Nat.le_trans h2 (Nat.le_trans h1 l)
end Mine
end

section
open PySem PySem.W PyProof.Rows PySem.Calls Builtin
set_option linter.unusedVariables false
namespace Mine
set_option maxRecDepth 100000
set_option maxHeartbeats 4000000

def opD : Nat → Ct → Ct → Ct
  | 0 => andD | 1 => orD | 2 => addD | _ => subD
def opF : Nat → Addr
  | 0 => 42 | 1 => 47 | 2 => 59 | _ => 64
theorem orD_len (D1 D2 : Ct) : (orD D1 D2).length ≤ D1.length + D2.length := by
  unfold orD
  refine Nat.le_trans (posD_len _) (Nat.le_trans (missD_len _ _) (Nat.add_le_add_right (mapD_len _ _) _))
theorem addD_len (D1 D2 : Ct) : (addD D1 D2).length ≤ D1.length + D2.length := by
  unfold addD
  refine Nat.le_trans (posD_len _) (Nat.le_trans (missD_len _ _) (Nat.add_le_add_right (mapD_len _ _) _))

section
variable {w : World} {A : Around} {E : Value → Shared → Prop} {s : Shared} {x y : Addr} {D1 D2 : Ct}
theorem c_op (n : Nat) {R : Result → Shared → Prop} (rm : Rm 60 A) (W : Wd w s.heap) (hx : Cr w s.heap x D1) (hy : Cr w s.heap y D2) (hlen : D1.length ≤ 400) (hlen2 : D2.length ≤ 400)
    (hR : ∀ z h' tk, Up s.heap h' → @LE.le Nat _ s.heap.objs.size z → Cr w h' z (opD n D1 D2) → R (.ok (.ret (.ref z))) { s with heap := h', toks := tk }) :
    codeAny (model pg w) A (.call (.ref (opF n)) ⟨[.ref x, .ref y], []⟩) R s := by
  match n with
  | 0 => exact c_and rm W hx hy (by omega) hR
  | 1 => exact c_or rm W hx hy hlen hlen2 hR
  | 2 => exact c_add rm W hx hy hlen hlen2 hR
  | n + 3 => exact c_sub rm W hx hy hlen hlen2 hR

theorem Cr.type (hx : Cr w s.heap x D1) (M : Model) : Looks M s.heap (typeOf (.ref x)) (.ref 67) := let ⟨_, _, q, _⟩ := hx; q.type M
theorem sp_ctr {name : Str} {f : Addr} {args : List Value} {Q : Option Value → Shared → Prop} (W : Wd w s.heap) (hx : Cr w s.heap x D1) (hs : findIn (KH w) (.ref 67) name = some (some (.ref f))) (hf : typeIn (KH w) (.ref f) = some (.type "function"))
    (h : wpAny (model pg w) A (call (.ref f) (.ref x :: args)) (fun v => Q (some v)) E s) : wpAny (model pg w) A (callSpecial? (.ref x) name args) Q E s :=
  wpAny_bind (wpAny_bind ((hx.type _).here ((looks_findIn W.K hs).here (wpAny_holding (wpAny_bind ((bind_fn W.K _ hf).here (wpAny_bind (wpAny_mono h (fun _ _ z => wpAny_pure z) fun _ _ z => z))))))))

theorem bin1_ctr {nm : String} {f : Addr} {Q : Option Value → Shared → Prop} (W : Wd w s.heap) (hx : Cr w s.heap x D1) (hy : Cr w s.heap y D2) (hs : findIn (KH w) (.ref 67) (PySem.dunder nm) = some (some (.ref f))) (hf : typeIn (KH w) (.ref f) = some (.type "function"))
    (h : wpAny (model pg w) A (call (.ref f) [.ref x, .ref y]) (fun v s' => ∃ z, v = .ref z ∧ Q (some (.ref z)) s') E s) : wpAny (model pg w) A (binaryOp1 nm (.ref x) (.ref y)) Q E s := by
  unfold binaryOp1
  refine wpAny_bind ((hx.type _).here (wpAny_bind ((hy.type _).here (wpAny_bind ((fills_K W.K (cd := cdC) (by kernel_rfl) rfl hs).here ?_)))))
  simp only [beq_self_eq_true, if_true]
  refine wpAny_bind (wpAny_pure ?_)
  simp only [Bool.and_false, Bool.false_eq_true, if_false, Bool.false_and]
  refine wpAny_bind (wpAny_pure ?_)
  simp only [Bool.false_eq_true, if_false]
  refine wpAny_bind (m := tryMethod (.ref x) _ (.ref y)) ?_
  unfold tryMethod
  refine wpAny_bind (sp_ctr W hx hs hf (wpAny_mono h (fun v s' hv => ?_) fun _ _ e => e))
  obtain ⟨z, rfl, q⟩ := hv
  exact wpAny_pure (wpAny_pure q)

def opO : Nat → Operator
  | 0 => .BitAnd | 1 => .BitOr | 2 => .Add | _ => .Sub
theorem opf_find (w : World) (n : Nat) : findIn (KH w) (.ref 67) (PySem.dunder (opO n).info.2) = some (some (.ref (opF n))) := by
  match n with
  | 0 => kernel_rfl
  | 1 => kernel_rfl
  | 2 => kernel_rfl
  | n + 3 => exact (show findIn (KH w) (.ref 67) (PySem.dunder (opO 3).info.2) = some (some (.ref (opF 3))) by kernel_rfl)
theorem opf_fn (w : World) (n : Nat) : typeIn (KH w) (.ref (opF n)) = some (.type "function") := by
  match n with
  | 0 => kernel_rfl
  | 1 => kernel_rfl
  | 2 => kernel_rfl
  | n + 3 => exact (show typeIn (KH w) (.ref (opF 3)) = some (.type "function") by kernel_rfl)

theorem op1_ctr (n : Nat) {Q : Option Value → Shared → Prop} (rm : Rm 60 A) (W : Wd w s.heap) (hx : Cr w s.heap x D1) (hy : Cr w s.heap y D2) (hlen : D1.length ≤ 400) (hlen2 : D2.length ≤ 400)
    (hQ : ∀ z h' tk, Up s.heap h' → @LE.le Nat _ s.heap.objs.size z → Cr w h' z (opD n D1 D2) → Q (some (.ref z)) { s with heap := h', toks := tk }) :
    wpAny (model pg w) A (binaryOp1 (opO n).info.2 (.ref x) (.ref y)) Q E s :=
  bin1_ctr W hx hy (opf_find w n) (opf_fn w n) (wpAny_call (c_op n rm W hx hy hlen hlen2 fun z h' tk k l c => ⟨z, rfl, hQ z h' tk k l c⟩))
theorem op_ctr (n : Nat) {Q : Value → Shared → Prop} (rm : Rm 60 A) (W : Wd w s.heap) (hx : Cr w s.heap x D1) (hy : Cr w s.heap y D2) (hlen : D1.length ≤ 400) (hlen2 : D2.length ≤ 400)
    (hQ : ∀ z h' tk, Up s.heap h' → @LE.le Nat _ s.heap.objs.size z → Cr w h' z (opD n D1 D2) → Q (.ref z) { s with heap := h', toks := tk }) :
    wpAny (model pg w) A (binaryOp (opO n) (.ref x) (.ref y)) Q E s := by
  unfold binaryOp
  exact wpAny_holding (wpAny_bind (op1_ctr n rm W hx hy hlen hlen2 fun z h' tk k l c => wpAny_pure (hQ z h' tk k l c)))

/-- `self | other` as the body of `__ior__` -/
theorem c_ior {R : Result → Shared → Prop} (rm : Rm 62 A) (W : Wd w s.heap) (hx : Cr w s.heap x D1) (hy : Cr w s.heap y D2) (hlen : D1.length ≤ 400) (hlen2 : D2.length ≤ 400)
    (hR : ∀ z h' tk, Up s.heap h' → @LE.le Nat _ s.heap.objs.size z → Cr w h' z (orD D1 D2) → R (.ok (.ret (.ref z))) { s with heap := h', toks := tk }) :
    codeAny (model pg w) A (.call (.ref 54) ⟨[.ref x, .ref y], []⟩) R s := by
  refine call_fn (binds := [("self", .ref x), ("other", .ref y)]) (rm.le (by decide)) W rfl (by kernel_rfl) rfl (BindsTo.of_eq (by kernel_rfl)) (by kernel_rfl) (by kernel_rfl) ?_ (by kernel_rfl) (by kernel_rfl) (by kernel_rfl)
  intro s₁ E' fr
  obtain ⟨h₁, t₁, rfl, up⟩ := fr.done
  have W₁ := W.keeps up
  have hle := size_lt fr
  generalize hE : callEnvC _ s.heap.objs.size 54 = env at fr ⊢
  have n_self : Nm env h₁ "self" (.ref x) := nl hE fr.toInCall.ns (by rw [← hE]; kernel_rfl)
  have n_other : Nm env h₁ "other" (.ref y) := nl hE fr.toInCall.ns (by rw [← hE]; kernel_rfl)
  refine wpAny_execs_cons (wpAny_Return_some (wpAny_BinOp ?_))
  refine (n_self _ _) _ _ _ _ (fun _ _ e => e) ((n_other _ _) _ _ _ _ (fun _ _ e => e) ?_)
  exact op_ctr 1 (s := { s with heap := h₁, toks := t₁ }) (rm.deeper.le (by decide)) W₁ (hx.keeps up) (hy.keeps up) hlen hlen2 fun z h' tk k l c => hR z h' tk (fun b o e => k b o (up b o e)) (Nat.le_trans hle l) c

theorem inpl_none {M : Model} {nm : String} {add : Bool} {h : Heap} (X : (KH w).In h) (h1 : findIn (KH w) (.ref 67) (dunderI nm) = some none) (h2 : findIn (KH w) (.type "dict") (dunderI nm) = some none) (h3 : findIn (KH w) (.type "object") (dunderI nm) = some none) :
    Looks M h (fillsInplaceSlot (.ref 67) nm add) false := by
  intro A Q E s k q
  unfold fillsInplaceSlot
  refine wpAny_bind (((looks_clsIn X (cd := cdC) (C := 67) (by kernel_rfl)).andThen (f := fun cd => pure cd.mro) .now) A _ E s k ?_)
  show wpAny M A (List.anyM _ [Value.ref 67, Value.type "dict", Value.type "object"]) _ _ _
  rw [List.anyM_cons]
  refine wpAny_bind (wpAny_bind (looks_findIn X h1 A _ E s k (wpAny_pure ?_)))
  rw [if_neg (by decide), List.anyM_cons]
  refine wpAny_bind (wpAny_bind (looks_findIn X h2 A _ E s k (wpAny_pure ?_)))
  rw [if_neg (by decide), List.anyM_cons]
  refine wpAny_bind (wpAny_bind (looks_findIn X h3 A _ E s k (wpAny_pure ?_)))
  rw [if_neg (by decide)]
  exact wpAny_pure q
theorem inpl_own {M : Model} {nm : String} {add : Bool} {f : Addr} {h : Heap} (X : (KH w).In h) (h1 : findIn (KH w) (.ref 67) (dunderI nm) = some (some (.ref f))) : Looks M h (fillsInplaceSlot (.ref 67) nm add) true := by
  intro A Q E s k q
  unfold fillsInplaceSlot
  refine wpAny_bind (((looks_clsIn X (cd := cdC) (C := 67) (by kernel_rfl)).andThen (f := fun cd => pure cd.mro) .now) A _ E s k ?_)
  show wpAny M A (List.anyM _ [Value.ref 67, Value.type "dict", Value.type "object"]) _ _ _
  rw [List.anyM_cons]
  refine wpAny_bind (wpAny_bind (looks_findIn X h1 A _ E s k ?_))
  dsimp only
  rw [if_pos (show (!ownNameWrapper (.ref f) (dunderI nm)) = true from rfl)]
  refine wpAny_pure ?_
  rw [if_pos rfl]
  exact wpAny_pure q
theorem ino_none {M : Model} {h : Heap} (X : (KH w).In h) (n : Nat) (hn : n ≠ 1) (add : Bool) : Looks M h (fillsInplaceSlot (.ref 67) (opO n).info.2 add) false := by
  match n with
  | 0 => exact inpl_none X (by kernel_rfl) (by kernel_rfl) (by kernel_rfl)
  | 1 => exact absurd rfl hn
  | 2 => exact inpl_none X (by kernel_rfl) (by kernel_rfl) (by kernel_rfl)
  | n + 3 => exact inpl_none (nm := (opO 3).info.2) X (by kernel_rfl) (by kernel_rfl) (by kernel_rfl)

theorem iop_ctr (n : Nat) {Q : Value → Shared → Prop} (rm : Rm 62 A) (W : Wd w s.heap) (hx : Cr w s.heap x D1) (hy : Cr w s.heap y D2) (hlen : D1.length ≤ 400) (hlen2 : D2.length ≤ 400)
    (hQ : ∀ z h' tk, Up s.heap h' → @LE.le Nat _ s.heap.objs.size z → Cr w h' z (opD n D1 D2) → Q (.ref z) { s with heap := h', toks := tk }) :
    wpAny (model pg w) A (inplaceOp (opO n) (.ref x) (.ref y)) Q E s := by
  unfold inplaceOp
  refine wpAny_holding (wpAny_bind ((hx.type _).here ?_))
  by_cases hn : n = 1
  · subst hn
    refine wpAny_bind ((inpl_own (nm := (opO 1).info.2) W.K (f := 54) (by kernel_rfl)).here ?_)
    rw [if_pos rfl]
    refine wpAny_bind ?_
    unfold tryMethod
    refine wpAny_bind (sp_ctr W hx (f := 54) (by kernel_rfl) (by kernel_rfl) (wpAny_call (c_ior rm W hx hy hlen hlen2 fun z h' tk k l c => ?_)))
    exact wpAny_pure (wpAny_bind (wpAny_rule (wpAny_pure (hQ z h' tk k l c))))
  · refine wpAny_bind ((ino_none W.K n hn _).here ?_)
    rw [if_neg (by decide)]
    refine wpAny_bind (op1_ctr n (rm.le (by decide)) W hx hy hlen hlen2 fun z h' tk k l c => ?_)
    exact wpAny_pure (hQ z h' tk k l c)
end
end Mine
end

section
open PySem PySem.W PyProof.Rows PySem.Calls Builtin
set_option linter.unusedVariables false
namespace Mine
set_option maxRecDepth 100000
set_option maxHeartbeats 4000000

section
variable {w : World} {A : Around} {E : Value → Shared → Prop} {s : Shared}

theorem dl_same {nm : String} {cls cls' : Value} {od od' : Option Addr} {a b : Addr} {ka kb : List (Str × Value)} {Q : Bool → Shared → Prop} (x : DL w s.heap cls od a ka) (y : DL w s.heap cls' od' b kb) (hl : ka.length = kb.length)
    (hv : ∀ k v, (k, v) ∈ ka → ∃ i t u, v = .int i t ∧ valueAt kb k = some (.int i u)) (h : Q true s) : wpAny (model pg w) A (Builtin.Dict.samePairs nm a b) Q E s := by
  have ha := x.nsm
  have hb := y.nsm
  obtain ⟨ep, _, es, hoa, hka, hpa, _⟩ := x
  obtain ⟨ep', _, es', hob, hkb, hpb, _⟩ := y
  have hda : (⟨cls, od, .dict es ep, #[]⟩ : Obj).data = .dict es ep := rfl
  have hdb : (⟨cls', od', .dict es' ep', #[]⟩ : Obj).data = .dict es' ep' := rfl
  have hla : ka.length = es.size := by rw [← hpa.length]; exact Array.length_toList
  have hlb : kb.length = es'.size := by rw [← hpb.length]; exact Array.length_toList
  have hfind : ∀ k, findBy (strKind pg w).is es' k = valueAt kb k := fun k => by
    rw [← hpb.find k]
    clear hlb hpb hkb hdb hob
    obtain ⟨l⟩ := es'
    simp [findBy]
  unfold Builtin.Dict.samePairs Builtin.Dict.showsAll
  rw [if_neg (by rw [ha]; exact Bool.false_ne_true), if_neg (by rw [hb]; exact Bool.false_ne_true)]
  refine wpAny_bind (wpAny_pure (wpAny_bind (wpAny_pure (wpAny_bind (wpAny_dictEntries hoa hda ?_)))))
  dsimp only
  refine wpAny_bind (wpAny_dictEntries hob hdb ?_)
  rw [if_neg (by simp [← hla, ← hlb, hl])]
  refine wpAny_bind (wpAny_dictEpoch hoa hda (wpAny_bind ?_))
  rw [Std.Legacy.Range.forIn_eq_forIn_range']
  simp only [Std.Legacy.Range.size, Nat.sub_zero, Nat.add_sub_cancel, Nat.div_one]
  refine wpAny_forIn_list _ (fun rest q s' => s' = s ∧ q = (none, ()) ∧ ∃ i, rest = List.range' i (es.size - i)) _ ?_ ?_ _ _ ⟨rfl, rfl, 0, by simp⟩
  · rintro x rest q s' ⟨rfl, rfl, i, hr⟩
    have hlt : i < es.size := by
      rcases Nat.lt_or_ge i es.size with h | h
      · exact h
      · rw [Nat.sub_eq_zero_of_le h] at hr; simp at hr
    obtain ⟨rfl, hrest⟩ : x = i ∧ rest = List.range' (i + 1) (es.size - (i + 1)) := by
      have e : es.size - i = (es.size - (i + 1)) + 1 := by omega
      rw [e, List.range'_succ] at hr
      injection hr with h1 h2
      exact ⟨h1, h2⟩
    refine wpAny_bind (wpAny_dictEntries hoa hda ?_)
    rw [Array.getElem?_eq_getElem hlt]
    have hlt' : x < ka.length := by rw [hla]; exact hlt
    obtain ⟨k, v, hkv⟩ : ∃ k v, ka[x] = (k, v) := ⟨_, _, rfl⟩
    obtain ⟨i, t, u, ev, hy⟩ := hv k v (by rw [← hkv]; exact List.getElem_mem hlt')
    obtain ⟨hkey, hval⟩ := hpa.get? (i := x) (e := es[x]) (k := k) (v := v) (by rw [Array.getElem?_toList]; exact Array.getElem?_eq_getElem hlt) (by rw [List.getElem?_eq_getElem hlt', hkv])
    obtain ⟨k', hk', hh⟩ := hka es[x] (Array.getElem_mem hlt)
    have ekk : k' = k := (strKind pg w).inj _ _ _ hk' hkey
    rw [ekk] at hh
    show wpAny _ _ (holding [es[x].key, es[x].val] _ >>= _) _ _ _
    rw [hh]
    refine wpAny_bind (wpAny_holding (wpAny_bind (wpAny_dictFind_of hkey hob hdb hkb ?_)))
    cases hj : es'.findIdx? fun e => (strKind pg w).is k e.key with
    | none =>
      have hn : valueAt kb k = none := by rw [← hfind k, findBy_of_findIdx?, hj]
      rw [hn] at hy; cases hy
    | some j =>
      obtain ⟨hjlt, _, _⟩ := Array.findIdx?_eq_some_iff_getElem.mp hj
      have hv' : valueAt kb k = some es'[j].val := by
        rw [← hfind k, findBy_of_findIdx?, hj]
        simp [Array.getElem?_eq_getElem hjlt]
      refine wpAny_bind (wpAny_dictEntries hob hdb ?_)
      rw [Array.getElem?_eq_getElem hjlt]
      have ey : es'[j].val = .int i u := Option.some.inj (hv'.symm.trans hy)
      refine wpAny_holding ?_
      show wpAny _ _ (eqBool es[x].val es'[j].val) _ _ _
      rw [hval, ev, ey]
      refine SeqAt.EqAt.int_int i t i u _ _ _ _ ?_
      rw [beq_self_eq_true]
      show wpAny _ _ (if (!true) = true then _ else _) _ _ _
      rw [if_neg (by decide)]
      refine wpAny_bind (wpAny_dictEpoch hoa hda ?_)
      rw [if_neg (by simp)]
      exact wpAny_pure ⟨rfl, rfl, x + 1, hrest⟩
  · rintro q s' ⟨rfl, rfl, i, hr⟩
    exact wpAny_pure h

/-- the same table: as many letters, each with the same count -/
structure Same (D D' : Ct) : Prop where
  len : D.length = D'.length
  at' : ∀ k, lk D k = lk D' k

theorem same_pairs {D D' : Ct} {ka kb : List (Str × Value)} (fa : FA ka D) (fb : FA kb D') (hn : (D.map (·.1)).Nodup) (sm : Same D D') : ∀ k v, (k, v) ∈ ka → ∃ i t u, v = .int i t ∧ valueAt kb k = some (.int i u) := by
  intro k v hm
  obtain ⟨i, hi⟩ := List.getElem?_of_mem hm
  obtain ⟨t, hv, hD⟩ := fa.at hi
  have := lk_at hn hD
  rw [sm.at'] at this
  obtain ⟨u, hu⟩ := fb.hit this
  exact ⟨_, t, u, hv, hu⟩

theorem cd_eq {x y : Addr} {D D' : Ct} {Q : Value → Shared → Prop} (rm : Rm 5 A) (W : Wd w s.heap) (hx : Cr w s.heap x D) (hy : Dc w s.heap y D') (sm : Same D D') (h : Q (.bool true) s) : wpAny (model pg w) A (compareOp .Eq (.ref x) (.ref y)) Q E s := by
  obtain ⟨dx, ka, dl, fa, ed⟩ := id hx
  obtain ⟨kb, dl', fb⟩ := id hy
  have DC := dcls_ctr W.K
  have core : wpAny (model pg w) A (call (.builtin "dict.__eq__") [.ref x, .ref y]) (fun v s' => v = .bool true ∧ s' = s) E s := by
    refine call_meth' (n := "__eq__") (.inl (by decide +kernel)) (by decide +kernel) PySem.F.slot_dict_eq.plain PySem.F.entry_dict_eq (dl.inst DC _) (PySem.F.args_dict_eq_2 _ _) ?_
    show wpAny _ _ (Builtin.Dict.dictSlotArgs "__eq__" ⟨[.ref x, .ref y], []⟩ >>= _) _ _ s
    refine wpAny_bind ?_
    unfold Builtin.Dict.dictSlotArgs
    refine wpAny_bind ((noord_of (dl.type _) (DC.noord _)).here ?_)
    show wpAny _ _ (pure (Value.ref x, Value.ref y)) _ _ s
    refine wpAny_pure ?_
    refine wpAny_bind ((dl'.inst (dcls_dict _) _).here ?_)
    simp only [Bool.not_true, Bool.false_eq_true, if_false]
    refine wpAny_bind (wpAny_pure (wpAny_bind (wpAny_pure ?_)))
    refine wpAny_bind (dl_same dl dl' (by rw [fa.length, fb.length]; exact sm.len) (same_pairs fa fb hx.nodup sm) ?_)
    exact wpAny_pure ⟨_, rfl, rfl, rfl⟩
  show wpAny _ _ (richCompare .Eq (.ref x) (.ref y)) _ _ _
  unfold richCompare
  simp only [oneThing_ref]
  refine wpAny_holding (wpAny_bind (wpAny_cRoomFor rm.units ?_))
  refine wpAny_bind ((dl.type _).here (wpAny_bind ((dl'.type _).here ?_)))
  rw [if_pos (by decide)]
  refine wpAny_bind ((Looks.of_pure (r := false) (by rw [isSubtype_type]; kernel_rfl)).here ?_)
  simp only [Bool.false_eq_true, if_false]
  refine wpAny_bind ?_
  unfold tryCompare
  refine wpAny_bind (sp_callB (dl.special (DC.feq _)) (PySem.F.slot_dict_eq.bind _) (wpAny_mono core (fun v s' hv => ?_) fun _ _ e => e))
  obtain ⟨rfl, rfl⟩ := hv
  exact wpAny_pure (wpAny_pure h)
end

section
variable {w : World} {A : Around} {E : Value → Shared → Prop} {s : Shared} {env : Env}
theorem all_list {D : Addr} {ys : Array Value} {Q : Value → Shared → Prop} (hh : A.handled = none) (hl : s.heap.IsList D ys) (hy : ∀ v ∈ ys.toList, v = .bool true) (hQ : ∀ h' tk, Up s.heap h' → Q (.bool true) { s with heap := h', toks := tk }) :
    wpAny (model pg w) A (call (.builtin "all") [.ref D]) Q E s := by
  have hlt : @LT.lt Nat _ D s.heap.objs.size := let ⟨o, ho, r⟩ := hl; Heap.lt_size ho
  refine call_all_walk (wpAny_pyIter_list hl ⟨_, _, _, _, _, _, fun _ => true, rfl, Walks.list (by exact hh) _ D (neA (Nat.ne_of_lt hlt)) ys, ⟨⟨_, Heap.get?_push_size _ rfl, rfl, rfl⟩, hl.push _⟩, ?_, ?_⟩)
  · intro i v s Q E hP hQ
    have := hy v (Array.mem_toList_iff.mpr (Array.mem_of_getElem? hP))
    subst this
    exact wpAny_truthy_bool hQ
  · intro h' tk hk
    have e : ((List.range ys.size).all fun _ => true) = true := by simp
    rw [e]
    refine hQ h' tk fun b o e => hk b o (nin1 ?_) (Heap.get?_push_of_some _ e)
    exact Nat.ne_of_lt (Heap.lt_size e)

theorem e_all {elt iter : Expr} {x : Str} {px p1 p2 : Pos} {scope : Scope} {cl : List (Str × Addr)} {pos : Pos} {Q : Value → Shared → Prop} (hh : A.handled = none)
    (hall : Nm env s.heap "all" (.builtin "all"))
    (hclos : closureFor scope env = pure cl) (hcell : ∀ y ∈ scope.names, y.2 ≠ .cell) (hkind : scope.kind = .function)
    (hnames : ∀ y ∈ scope.names, y.2 = .local → scope.names.lookup y.1 = some .local) (hx : scope.names.lookup x = some .local)
    (h : wpAny (model pg w) A (eval iter env) (fun xv s₁ => wpAny (model pg w) A (pyIter xv) (fun it s₂ => ∃ I fp wr n P St, it = .ref I ∧ Walks pg w A I fp wr n P St ∧ n ≤ sizeLine ∧ St 0 s₂.heap ∧ (∀ b ∈ fp, b < s₂.heap.objs.size) ∧
      (∀ C i v s₃ m₃ E', s₂.heap.objs.size ≤ C → P i v → s₃.heap.Ns C m₃ → m₃ x = some v → (∀ b o, b ∉ wr → s₂.heap.get? b = some o → s₃.heap.get? b = some o) →
        wpAny (model pg w) A (eval elt (compEnvC scope cl C env)) (fun y s₄ => y = .bool true ∧ Keeps s₃ s₄) E' s₃) ∧
      (∀ h' tk, (∀ b o, b ∉ wr → s₂.heap.get? b = some o → h'.get? b = some o) → Q (.bool true) { s₂ with heap := h', toks := tk })) E s₁) E s)
    (hs : ∀ x, foldedSetIterable iter env x = pure x := by intro _; rfl) (ha : starEach [.ListComp elt [⟨.Name x px, iter, [], 0⟩] scope pos] env = [(false, eval (.ListComp elt [⟨.Name x px, iter, [], 0⟩] scope pos) env)] := by rfl) :
    wpAny (model pg w) A (eval (.Call (.Name "all" p1) [.ListComp elt [⟨.Name x px, iter, [], 0⟩] scope pos] [] p2) env) Q E s := by
  refine call1 ((hall _ _).keeps fun _ _ e => e) (wpAny_ListComp_free (fun _ => true) (fun _ y => y = .bool true) hclos hcell hkind hnames hx (wpAny_mono h (fun xv s₁ h₁ => wpAny_mono h₁ (fun it s₂ h₂ => ?_) fun _ _ e => e) fun _ _ e => e) hs) ha
  obtain ⟨I, fp, wr, n, P, St, rfl, Wk, hsz, hst, hfp, helt, hQ⟩ := h₂
  refine ⟨I, fp, wr, n, P, St, rfl, Wk, hsz, hst, hfp, ⟨?_, ?_⟩, ?_⟩
  · intro C i v s₃ m₃ E' hC hv hn hm hk htk
    rw [List.forIn_nil]
    exact wpAny_pure ⟨rfl, keeps_refl _⟩
  · intro C i v s₃ m₃ E' hC hv _ hn hm hk htk
    exact helt C i v s₃ m₃ E' hC hv hn hm hk
  · intro D h' tk ys vs hD hl hpl hlen hP hF hk
    refine all_list (s := { s₂ with heap := h', toks := tk }) hh hl (fun v hv => ?_) fun h'' tk'' k => hQ h'' tk'' fun b o hb e => k b o (hk b o hb e)
    obtain ⟨_, e⟩ := Paired.right hF v hv
    exact e

theorem and_list {es : List Expr} {pos : Pos} {h : Heap} (hne : es ≠ []) (H : ∀ e ∈ es, PE w env h e (· = .bool true)) : PE w env h (.BoolOp .And es pos) (· = .bool true) := by
  intro A E Q s rm up q
  rw [arm_eval_BoolOp]
  induction es generalizing s with
  | nil => exact absurd rfl hne
  | cons e r ih =>
    cases r with
    | nil => exact H e (.head _) A E Q s rm up q
    | cons e' r' =>
      show wpAny _ _ (boolOp pos .And (eval e env :: eval e' env :: evalEach r' env)) _ _ _
      unfold boolOp
      refine wpAny_bind (H e (.head _) A E _ s rm up fun v s' ks ev => ?_)
      subst ev
      refine wpAny_bind (wpAny_standAt (wpAny_bind (wpAny_holding (wpAny_truthy_bool ?_))))
      exact ih (by simp) (fun x hx => H x (.tail _ hx)) s' (fun b o e => keeps_up ks _ _ (up b o e)) fun v s'' ks' ev => q v s'' (keeps_trans ks ks') ev
end
end Mine
end

section
open PySem PySem.W PyProof.Rows PySem.Calls Builtin
set_option linter.unusedVariables false
namespace Mine
set_option maxRecDepth 100000
set_option maxHeartbeats 4000000

section
variable {w : World} {env : Env} {h h' : Heap} {e l r : Expr} {P P' : Value → Prop} {b : Bool} {n : Str} {v : Value} {pos : Pos}
theorem pe_in {kn d : Str} {p1 p2 : Pos} {a : Addr} {k : Str} {tk : Tok} {D : Ct} (nk : Nm env h kn (.str k tk)) (nd : Nm env h d (.ref a)) (t : TB w h a D)
    (hm : behindInMarks .In (.Name d p2) = false := by with_unfolding_all rfl) : PE w env h (.Compare (.Name kn p1) [.In] [.Name d p2] pos) (· = .bool (lk D k).isSome) := fun A E Q s rm up q => by
  refine wpAny_Compare1 ((nk _ _) A _ E s up ((nd _ _) A _ E s up ?_)) hm
  obtain ⟨cls, od, kvs, Dc, dl, fa, _⟩ := t.keeps up
  refine dl_in dl Dc (strKind_is _ _ _ _) ?_
  rw [fa.isSome k]
  exact q _ _ (keeps_tok _ _) rfl
theorem pe_eq {i j : Int} (x : PE w env h l (IntV i)) (y : PE w env h r (IntV j)) (hm : behindInMarks .Eq r = false := by with_unfolding_all rfl) : PE w env h (.Compare l [.Eq] [r] pos) (· = .bool (i == j)) := fun A E Q s rm up q => by
  refine wpAny_Compare1 (x A _ _ s rm up fun v s' ks ⟨t, ht⟩ => ?_) hm
  subst ht
  refine y A _ _ s' rm (fun b o e => keeps_up ks _ _ (up _ _ e)) fun v s'' ks' ⟨u, hu⟩ => ?_
  subst hu
  exact eq_int (q _ _ (keeps_trans ks ks') rfl)
theorem pe_len {d fn : Str} {p1 fp : Pos} {a : Addr} {D : Ct} (hf : Nm env h fn (.builtin "len")) (nd : Nm env h d (.ref a)) (t : TB w h a D) (hlen : D.length ≤ 1000)
    (ha : starEach [.Name d p1] env = [(false, eval (.Name d p1) env)] := by rfl) : PE w env h (.Call (.Name fn fp) [.Name d p1] [] pos) (IntV D.length) := fun A E Q s rm up q => by
  refine call1 ((hf _ _).keeps up) ((nd _ _) A _ E s up ?_) ha
  obtain ⟨cls, od, kvs, Dc, dl, fa, _⟩ := t.keeps up
  refine dl_len dl Dc (by have := fa.length; omega) ?_
  rw [fa.length]
  exact q _ _ ⟨_, _, rfl, fun _ _ e => e⟩ ⟨_, rfl⟩
theorem pe_isC {d : Str} {p1 p2 p3 : Pos} {a : Addr} {D : Ct} (W : Wd w h) (hf : Nm env h "isinstance" (.builtin "isinstance")) (nC : Nm env h "Counter" (.ref 67)) (nd : Nm env h d (.ref a)) (c : Cr w h a D)
    (ha : starEach [.Name d p1, .Name "Counter" p2] env = [(false, eval (.Name d p1) env), (false, eval (.Name "Counter" p2) env)] := by rfl) : PE w env h (.Call (.Name "isinstance" p3) [.Name d p1, .Name "Counter" p2] [] pos) (· = .bool true) := fun A E Q s rm up q => by
  refine call2 ((hf _ _).keeps up) ((nd _ _) A _ E s up ((nC _ _) A _ E s up ?_)) ha
  exact isi_call (t := .ref 67) (W.keeps up).K (fun M => (c.keeps up).type M) (by kernel_rfl) (fun e => nomatch e) (q _ _ (keeps_refl s) rfl)
theorem pe_teq {x y : Str} {p1 p2 : Pos} {a b : Addr} {D D' : Ct} (W : Wd w h) (nx : Nm env h x (.ref a)) (ny : Nm env h y (.ref b)) (c : Cr w h a D) (d : Dc w h b D') (sm : Same D D')
    (hm : behindInMarks .Eq (.Name y p2) = false := by with_unfolding_all rfl) : PE w env h (.Compare (.Name x p1) [.Eq] [.Name y p2] pos) (· = .bool true) := fun A E Q s rm up q => by
  refine wpAny_Compare1 ((nx _ _) A _ E s up ((ny _ _) A _ E s up ?_)) hm
  exact cd_eq (rm.le (by decide)) (W.keeps up) (c.keeps up) (d.keeps up) sm (q _ _ (keeps_refl s) rfl)
end

theorem c_same {w : World} {A : Around} {s : Shared} {R : Result → Shared → Prop} {x y : Addr} {D D' : Ct} (rm : Rm 60 A) (W : Wd w s.heap) (hx : Cr w s.heap x D) (hy : Dc w s.heap y D') (sm : Same D D') (hlen : D'.length ≤ 1000)
    (hR : ∀ h' tk, Up s.heap h' → R (.ok (.ret (.bool true))) { s with heap := h', toks := tk }) :
    codeAny (model pg w) A (.call (.ref 90) ⟨[.ref x, .ref y], []⟩) R s := by
  refine call_fn (binds := [("told", .ref x), ("due", .ref y)]) (rm.le (by decide)) W rfl (by kernel_rfl) rfl (BindsTo.of_eq (by kernel_rfl)) (by kernel_rfl) (by kernel_rfl) ?_ (by kernel_rfl) (by kernel_rfl) (by kernel_rfl)
  intro s₁ E' fr
  obtain ⟨h₁, t₁, rfl, up⟩ := fr.done
  have W₁ := W.keeps up
  have hle := size_lt fr
  generalize hE : callEnvC _ s.heap.objs.size 90 = env at fr ⊢
  have c1 : h₁.IsCell (s.heap.objs.size + 1) (some (.ref x)) := by
    have := fr.cell "told" (s.heap.objs.size + 1) (by rw [← hE]; kernel_rfl)
    rw [← hE] at this
    exact this
  have c2 : h₁.IsCell (s.heap.objs.size + 2) (some (.ref y)) := by
    have := fr.cell "due" (s.heap.objs.size + 2) (by rw [← hE]; kernel_rfl)
    rw [← hE] at this
    exact this
  have n_told : Nm env h₁ "told" (.ref x) := nc hE c1 (by kernel_rfl)
  have n_due : Nm env h₁ "due" (.ref y) := nc hE c2 (by kernel_rfl)
  have n_C : Nm env h₁ "Counter" (.ref 67) := ng hE W₁ (by kernel_rfl)
  have n_isi : Nm env h₁ "isinstance" (.builtin "isinstance") := nb hE W₁ (by kernel_rfl) (by boot_fast) (by decide)
  have n_len : Nm env h₁ "len" (.builtin "len") := nb hE W₁ (by kernel_rfl) (by boot_fast) (by decide)
  have n_all : Nm env h₁ "all" (.builtin "all") := nb hE W₁ (by kernel_rfl) (by boot_fast) (by decide)
  have hx₁ := hx.keeps up
  have hy₁ := hy.keeps up
  refine wpAny_execs_cons (wpAny_Return_some ?_)
  refine and_list (h := h₁) (w := w) (by simp) ?_ _ _ _ _ (rm.deeper.le (by decide)) (fun _ _ e => e) fun v s' ks ev => ?_
  · intro e he
    rcases List.mem_cons.mp he with rfl | he
    · exact pe_isC W₁ n_isi n_C n_told hx₁
    rcases List.mem_cons.mp he with rfl | he
    · exact (pe_eq (pe_len n_len n_told (hx₁.tb W₁) (by rw [sm.len]; exact hlen)) (pe_len n_len n_due hy₁.tb hlen)).mono fun v hv => by rw [hv, sm.len, beq_self_eq_true]
    rcases List.mem_cons.mp he with rfl | he
    · intro A E Q s' rm' up' q
      have hy₂ := hy₁.keeps up'
      obtain ⟨kvs, ⟨ep, dl⟩, fb⟩ := id hy₂
      have hlt : @LT.lt Nat _ y s'.heap.objs.size := hy₂.tb.lt
      refine e_all (cl := [("told", s.heap.objs.size + 1), ("due", s.heap.objs.size + 2)]) rm'.1 (n_all.keeps up') (by rw [← hE]; kernel_rfl) (by decide) rfl (by decide) (by decide) ?_
      refine (n_due _ _) _ _ _ _ up' (dl_pyIter dl (dcls_dict _) ?_)
      refine ⟨_, _, _, _, _, _, rfl, dl_walks (w := w) rm'.1 (cls := .type "dict") (od := none) (kvs := kvs) (ep := ep) (neA (Nat.ne_of_lt hlt)), ?_, ⟨⟨_, Heap.get?_push_size _ rfl, rfl, rfl⟩, dl.keeps fun b o e => Heap.get?_push_of_some _ e⟩, ?_, ?_, ?_⟩
      · have := fb.length
        rw [sizeLine_eq]; omega
      · intro b hb
        rw [Heap.size_push]
        rcases List.mem_cons.mp hb with rfl | hb
        · exact Nat.lt_succ_self _
        · rcases List.mem_cons.mp hb with rfl | hb
          · exact Nat.lt_succ_of_lt hlt
          · cases hb
      · rintro C i v s₃ m₃ E'' hC ⟨k, x', tk, hk, rfl⟩ hn hm hk₃
        generalize hCE : compEnvC _ _ C env = ce
        have up₃ : Up h₁ s₃.heap := fun b o e => hk₃ b o (nin1 (Nat.ne_of_lt (Heap.lt_size (up' b o e)))) (Heap.get?_push_of_some _ (up' b o e))
        have a1 : Nm ce s₃.heap "told" (.ref x) := nm_cell (by rw [← hCE]; kernel_rfl) (by rw [← hCE, ← hE]; kernel_rfl) (by rw [← hCE]; kernel_rfl) (let ⟨o, ho, r⟩ := c1; ⟨o, up₃ _ _ ho, r⟩)
        have a2 : Nm ce s₃.heap "due" (.ref y) := nm_cell (by rw [← hCE]; kernel_rfl) (by rw [← hCE, ← hE]; kernel_rfl) (by rw [← hCE]; kernel_rfl) (let ⟨o, ho, r⟩ := c2; ⟨o, up₃ _ _ ho, r⟩)
        have a3 : Nm ce s₃.heap "key" (.str k tk) := nm_local (by rw [← hCE]; kernel_rfl) (by rw [← hCE, ← hE]; kernel_rfl) (m := m₃) (by rw [← hCE]; exact hn) hm
        obtain ⟨t, hv, hD⟩ := fb.at hk
        have hD' := lk_at hy.nodup hD
        have hD1 : lk D k = some (vI x') := by rw [sm.at']; exact hD'
        refine and_list (h := s₃.heap) (w := w) (by simp) ?_ _ _ _ _ rm' (fun _ _ e => e) fun v s₄ ks ev => ⟨ev, ks⟩
        intro e he
        rcases List.mem_cons.mp he with rfl | he
        · exact (pe_in a3 a1 ((hx₁.keeps up₃).tb (W₁.keeps up₃))).mono fun v hv => by rw [hv, hD1]; rfl
        rcases List.mem_cons.mp he with rfl | he
        · exact (pe_eq (pe_sub a1 a3 ((hx₁.keeps up₃).tb (W₁.keeps up₃)) hD1) (pe_sub a2 a3 (hy₁.keeps up₃).tb hD')).mono fun v hv => by rw [hv, beq_self_eq_true]
        · cases he
      · intro h' tk hk'
        refine q _ _ ⟨h', tk, rfl, fun b o e => hk' b o (nin1 (Nat.ne_of_lt (Heap.lt_size e))) (Heap.get?_push_of_some _ e)⟩ rfl
    rcases List.mem_cons.mp he with rfl | he
    · exact pe_teq W₁ n_told n_due hx₁ hy₁ sm
    · cases he
  · subst ev
    obtain ⟨h', tk, rfl, k⟩ := ks
    exact hR h' tk fun b o e => k b o (up b o e)
end Mine
end

section
open PySem PySem.W PyProof.Rows PySem.Calls Builtin
set_option linter.unusedVariables false
namespace Mine
set_option maxRecDepth 100000
set_option maxHeartbeats 4000000

section
variable {w : World} {env : Env} {h h' : Heap} {e l r : Expr} {P P' : Value → Prop} {b : Bool} {n : Str} {v : Value} {pos : Pos}
theorem pe_nint {i : Int} {t : Tok} (x : Nm env h n (.int i t)) : PE w env h (.Name n pos) (IntV i) := (pe_name x).mono fun v hv => ⟨t, hv⟩
theorem pe_mod {i j : Int} (hj : j ≠ 0) (x : PE w env h l (IntV i)) (y : PE w env h r (IntV j)) : PE w env h (.BinOp l .Mod r pos) (IntV (i.fmod j)) := fun A E Q s rm up q => by
  refine wpAny_BinOp (x A _ _ s rm up fun v s' ks ⟨t, ht⟩ => ?_)
  subst ht
  refine y A _ _ s' rm (fun b o e => keeps_up ks _ _ (up _ _ e)) fun v s'' ks' ⟨u, hu⟩ => ?_
  subst hu
  exact mod_int hj (q _ _ (keeps_trans ks (keeps_trans ks' (keeps_tok _ _))) ⟨_, rfl⟩)
theorem pb_and3 {l r e : Expr} {b1 b2 b3 : Bool} (x : PB w env h l b1) (y : PB w env h r b2) (z : PB w env h e b3) : PB w env h (.BoolOp .And [l, r, e] pos) (b1 && (b2 && b3)) := fun A E Q s rm up q => by
  rw [arm_isTrue_BoolOp, arm_allTrue_cons]
  refine wpAny_bind (x A _ _ s rm up fun s' ks => ?_)
  cases b1 with
  | false => exact wpAny_pure (q _ ks)
  | true =>
    show wpAny _ _ (allTrue .And [r, e] env) Q E s'
    rw [arm_allTrue_cons]
    refine wpAny_bind (y A _ _ s' rm (fun b o e => keeps_up ks _ _ (up _ _ e)) fun s'' ks' => ?_)
    cases b2 with
    | false => exact wpAny_pure (q _ (keeps_trans ks ks'))
    | true =>
      show wpAny _ _ (allTrue .And [e] env) Q E s''
      rw [arm_allTrue_cons]
      refine wpAny_bind (z A _ _ s'' rm (fun b o e => keeps_up ks' _ _ (keeps_up ks _ _ (up _ _ e))) fun s₃ ks₃ => ?_)
      cases b3 with
      | false => exact wpAny_pure (q _ (keeps_trans ks (keeps_trans ks' ks₃)))
      | true => exact wpAny_pure (q _ (keeps_trans ks (keeps_trans ks' ks₃)))
end

section
variable {w : World} {A : Around} {E : Value → Shared → Prop} {s : Shared} {env : Env} {m : Str → Option Value}

/-- a store into a local of a pure int -/
theorem set_int {x : Str} {e : Expr} {i : Int} {p1 p2 : Pos} {Q : Flow → Shared → Prop} (kF : env.scope.kind = .function) (kx : env.kindOf x = some .local) (ns : s.heap.Ns env.locals m) (rm : Rm 20 A) (v : PE w env s.heap e (IntV i))
    (hQ : ∀ h' tk t, (∀ b o, b ≠ env.locals → s.heap.get? b = some o → h'.get? b = some o) → h'.Ns env.locals (fun z => if z = x then some (.int i t) else m z) → Q .next { s with heap := h', toks := tk })
    (hs : swapsWith e (some (.Name x p1)) p2.line env = pure false := by rfl) : wpAny (model pg w) A (exec (.Assign [.Name x p1] e p2) env) Q E s := by
  refine wpAny_Assign_Name (v A _ _ s rm (fun _ _ e => e) fun y s' ks ⟨t, ht⟩ => ?_) hs
  subst ht
  obtain ⟨h₁, t₁, rfl, k₁⟩ := ks
  exact wpAny_storeName_local kx (ns.keeps k₁) (fun h₂ hn₂ hs₂ => hQ h₂ _ t (fun b o hb e => (hs₂.2 b hb).trans (k₁ b o e)) hn₂) (by rw [kF]; rfl)

theorem if_set {x : Str} {test e : Expr} {b : Bool} {i j : Int} {p1 p2 p3 : Pos} {Q : Flow → Shared → Prop} (kF : env.scope.kind = .function) (kx : env.kindOf x = some .local) (ns : s.heap.Ns env.locals m) (hm : ∃ t, m x = some (.int j t)) (rm : Rm 20 A)
    (t : PB w env s.heap test b) (v : b = true → PE w env s.heap e (IntV i))
    (hQ : ∀ h' tk m', (∀ b o, b ≠ env.locals → s.heap.get? b = some o → h'.get? b = some o) → h'.Ns env.locals m' → (∀ y, y ≠ x → m' y = m y) → (∃ t, m' x = some (.int (if b then i else j) t)) → Q .next { s with heap := h', toks := tk })
    (hs : swapsWith e (some (.Name x p1)) p2.line env = pure false := by rfl) : wpAny (model pg w) A (exec (.If test [.Assign [.Name x p1] e p2] [] p3) env) Q E s := by
  refine wpAny_If (t A _ _ s rm (fun _ _ e => e) fun s' ks => ?_)
  obtain ⟨h₁, t₁, rfl, k₁⟩ := ks
  cases b with
  | false =>
    rw [if_neg (by decide)]
    exact wpAny_execs_nil (hQ h₁ t₁ m (fun b o _ e => k₁ b o e) (ns.keeps k₁) (fun _ _ => rfl) hm)
  | true =>
    rw [if_pos rfl]
    refine wpAny_execs_cons (set_int (s := { s with heap := h₁, toks := t₁ }) kF kx (ns.keeps k₁) rm ((v rfl).keeps k₁) (fun h' tk t hk hn => ?_) hs)
    exact wpAny_execs_nil (hQ h' tk _ (fun b o hb e => hk b o hb (k₁ b o e)) hn (fun y hy => if_neg hy) ⟨t, if_pos rfl⟩)

/-- two locals from a pair -/
theorem pair_set {a b : Expr} {x y : Str} {p1 p2 p3 p4 p5 : Pos} {c1 c2 : Nat} {Q : Flow → Shared → Prop} (kF : env.scope.kind = .function) (kx : env.kindOf x = some .local) (ky : env.kindOf y = some .local) (hh : A.handled = none)
    (hw : swappedStores [.Tuple [.Name x p1, .Name y p2] c1 p3] (.Tuple [a, b] c2 p4) env = pure (some [x, y]))
    (h : wpAny (model pg w) A (eval a env) (fun v s₁ => wpAny (model pg w) A (eval b env) (fun v' s₂ => ∃ m, s₂.heap.Ns env.locals m ∧ ∀ h' tk, (∀ b o, b ≠ env.locals → s₂.heap.get? b = some o → h'.get? b = some o) →
      h'.Ns env.locals (fun z => if z = x then some v else if z = y then some v' else m z) → Q .next { s₂ with heap := h', toks := tk }) E s₁) E s)
    (hs : swapsWithSole [.Tuple [.Name x p1, .Name y p2] c1 p3] (.Tuple [a, b] c2 p4) p5.line env = pure false := by rfl)
    (ha : starEach [a, b] env = [(false, eval a env), (false, eval b env)] := by rfl) :
    wpAny (model pg w) A (exec (.Assign [.Tuple [.Name x p1, .Name y p2] c1 p3] (.Tuple [a, b] c2 p4) p5) env) Q E s := by
  refine Assign_Tuple_swapped (names := [x, y]) (wpAny_Tuple ?_) hs hw
  rw [ha]
  refine spliced_cons (wpAny_mono h (fun v s₁ h₁ => ?_) fun _ _ e => e)
  refine spliced_cons (wpAny_mono h₁ (fun v' s₂ h₂ => ?_) fun _ _ e => e)
  refine spliced_nil ⟨by size_fits, ?_⟩
  obtain ⟨m, hn, hQ⟩ := h₂
  refine wpAny_unpackItems_tuple (items := #[v, v']) hh ⟨_, Heap.get?_push_size _ rfl, rfl, _, rfl⟩ fun h₁ he => ?_
  have up : Up s₂.heap h₁ := fun b o e => he b o (by rw [Heap.size_push]; exact neA (Nat.ne_of_lt (Nat.lt_succ_of_lt (Heap.lt_size e)))) (Heap.get?_push_of_some _ e)
  refine assignInOrder_cons (bindName_ (wpAny_storeName_local ky (hn.keeps up) (fun h₂ hn₂ hs₂ => ?_) (by rw [kF]; rfl)))
  refine assignInOrder_cons (bindName_ (wpAny_storeName_local kx hn₂ (fun h₃ hn₃ hs₃ => ?_) (by rw [kF]; rfl)))
  refine assignInOrder_nil (hQ h₃ _ (fun b o hb e => (hs₃.2 b hb).trans ((hs₂.2 b hb).trans (up b o e))) hn₃)
end
end Mine
end

section
open PySem PySem.W PyProof.Rows PySem.Calls Builtin
set_option linter.unusedVariables false
namespace Mine
set_option maxRecDepth 100000
set_option maxHeartbeats 4000000

def deedV (m : Int) (D1 D2 : Ct) (k : Str) : Int :=
  let x := (lk D1 k).getD 0
  let y := (lk D2 k).getD 0
  let w1 := if (m == 0 && ((lk D1 k).isSome && (lk D2 k).isSome)) = true then min x y else 0
  let w2 := if (m == 1) = true then max x y else w1
  let w3 := if (m == 2) = true then x + y else w2
  if (m == 3 && (lk D1 k).isSome) = true then x - y else w3
def deed1 (m : Int) (D1 D2 : Ct) (r : Ct) (k : Str) : Ct := if (decide (0 < deedV m D1 D2 k)) = true then st r k (deedV m D1 D2 k) else r
def abc : List Str := ("abc" : Str).cps.toList.map fun c => ⟨#[c]⟩
theorem abc_is : abc = ([("a" : Str), ("b" : Str), ("c" : Str)] : List Str) := by decide
def deedD (m : Int) (D1 D2 : Ct) : Ct := abc.foldl (deed1 m D1 D2) []
theorem deed_len (m : Int) (D1 D2 : Ct) (l : List Str) : ∀ r : Ct, (l.foldl (deed1 m D1 D2) r).length ≤ r.length + l.length := by
  induction l with
  | nil => intro r; simp
  | cons k q ih =>
    intro r
    rw [List.foldl_cons]
    have h1 := ih (deed1 m D1 D2 r k)
    have h2 : (deed1 m D1 D2 r k).length ≤ r.length + 1 := by
      unfold deed1; split
      · exact st_len _ _ _
      · omega
    rw [List.length_cons]; omega

structure DM (m : Str → Option Value) (n : Int) (x y d : Addr) : Prop where
  kind : ∃ t, m "kind" = some (.int n t)
  one : m "one" = some (.ref x)
  other : m "other" = some (.ref y)
  rows : m "rows" = some (.ref d)
theorem DM.of {m m' : Str → Option Value} {n : Int} {x y d : Addr} (h : DM m n x y d) (e : ∀ z : Str, z = "kind" ∨ z = "one" ∨ z = "other" ∨ z = "rows" → m' z = m z) : DM m' n x y d where
  kind := by rw [e _ (.inl rfl)]; exact h.kind
  one := by rw [e _ (.inr (.inl rfl))]; exact h.one
  other := by rw [e _ (.inr (.inr (.inl rfl)))]; exact h.other
  rows := by rw [e _ (.inr (.inr (.inr rfl)))]; exact h.rows
structure DF (w : World) (s₀ : Heap) (L x y d : Addr) (D1 D2 r : Ct) (n : Int) (h : Heap) (m : Str → Option Value) : Prop where
  ns : h.Ns L m
  dm : DM m n x y d
  t1 : Dc w h x D1
  t2 : Dc w h y D2
  dr : Dc w h d r
  up : Up s₀ h
section
variable {w : World} {s₀ h h' : Heap} {L x y d : Addr} {D1 D2 r : Ct} {n : Int} {m m' : Str → Option Value}
theorem DF.step (f : DF w s₀ L x y d D1 D2 r n h m) (hx : x ≠ L) (hy : y ≠ L) (hd : d ≠ L) (hs : @LE.le Nat _ s₀.objs.size L) (hk : ∀ b o, b ≠ L → h.get? b = some o → h'.get? b = some o) (hn : h'.Ns L m')
    (e : ∀ z : Str, z = "kind" ∨ z = "one" ∨ z = "other" ∨ z = "rows" → m' z = m z) : DF w s₀ L x y d D1 D2 r n h' m' where
  ns := hn
  dm := f.dm.of e
  t1 := f.t1.low fun o e => hk _ o hx e
  t2 := f.t2.low fun o e => hk _ o hy e
  dr := f.dr.low fun o e => hk _ o hd e
  up := fun b o e => hk b o (neA (Nat.ne_of_lt (Nat.lt_of_lt_of_le (Heap.lt_size e) hs))) (f.up b o e)
end
theorem off {m : Str → Option Value} {x : Str} {v : Option Value} (h : ∀ z : Str, z = "kind" ∨ z = "one" ∨ z = "other" ∨ z = "rows" → z ≠ x) : ∀ z : Str, z = "kind" ∨ z = "one" ∨ z = "other" ∨ z = "rows" → (fun z => if z = x then v else m z) z = m z := fun z hz => if_neg (h z hz)
theorem offW {x : Str} (hx : x = "key" ∨ x = "x" ∨ x = "y" ∨ x = "worth") : ∀ z : Str, z = "kind" ∨ z = "one" ∨ z = "other" ∨ z = "rows" → z ≠ x := by
  rintro z (rfl | rfl | rfl | rfl) <;> rcases hx with rfl | rfl | rfl | rfl <;> decide

theorem c_deed {w : World} {A : Around} {s : Shared} {R : Result → Shared → Prop} {x y : Addr} {D1 D2 : Ct} {n : Int} {tn : Tok} (rm : Rm 60 A) (W : Wd w s.heap) (hx : Dc w s.heap x D1) (hy : Dc w s.heap y D2)
    (hR : ∀ z h' tk, Up s.heap h' → @LE.le Nat _ s.heap.objs.size z → Dc w h' z (deedD (n.fmod 4) D1 D2) → R (.ok (.ret (.ref z))) { s with heap := h', toks := tk }) :
    codeAny (model pg w) A (.call (.ref 78) ⟨[.int n tn, .ref x, .ref y], []⟩) R s := by
  refine call_fn (binds := [("kind", .int n tn), ("one", .ref x), ("other", .ref y)]) (rm.le (by decide)) W rfl (by kernel_rfl) rfl (BindsTo.of_eq (by kernel_rfl)) (by kernel_rfl) (by kernel_rfl) ?_ (by kernel_rfl) (by kernel_rfl) (by kernel_rfl)
  intro s₁ E' fr
  obtain ⟨h₁, t₁, rfl, up⟩ := fr.done
  have W₁ := W.keeps up
  have hle := size_lt fr
  generalize hE : callEnvC _ s.heap.objs.size 78 = env at fr ⊢
  have hL : env.locals = s.heap.objs.size := by rw [← hE]; rfl
  have kF : env.scope.kind = .function := by rw [← hE]; kernel_rfl
  have kk : env.kindOf "kind" = some .local := by rw [← hE]; kernel_rfl
  have ko : env.kindOf "one" = some .local := by rw [← hE]; kernel_rfl
  have kt : env.kindOf "other" = some .local := by rw [← hE]; kernel_rfl
  have kr : env.kindOf "rows" = some .local := by rw [← hE]; kernel_rfl
  have ke : env.kindOf "key" = some .local := by rw [← hE]; kernel_rfl
  have kx : env.kindOf "x" = some .local := by rw [← hE]; kernel_rfl
  have ky : env.kindOf "y" = some .local := by rw [← hE]; kernel_rfl
  have kw : env.kindOf "worth" = some .local := by rw [← hE]; kernel_rfl
  have m1 : bindL env.kindOf [("kind", .int n tn), ("one", .ref x), ("other", .ref y)] (fun _ => none) "kind" = some (.int n tn) := by rw [← hE]; kernel_rfl
  have m2 : bindL env.kindOf [("kind", .int n tn), ("one", .ref x), ("other", .ref y)] (fun _ => none) "one" = some (.ref x) := by rw [← hE]; kernel_rfl
  have m3 : bindL env.kindOf [("kind", .int n tn), ("one", .ref x), ("other", .ref y)] (fun _ => none) "other" = some (.ref y) := by rw [← hE]; kernel_rfl
  have W' : ∀ h', Up s.heap h' → Wd w h' := fun h' k => W.keeps k
  have n_min : ∀ h', Up s.heap h' → Nm env h' "min" (.builtin "min") := fun h' k => nb hE (W' _ k) (by kernel_rfl) (by boot_fast) (by decide)
  have n_max : ∀ h', Up s.heap h' → Nm env h' "max" (.builtin "max") := fun h' k => nb hE (W' _ k) (by kernel_rfl) (by boot_fast) (by decide)
  have hlt : @LT.lt Nat _ s.heap.objs.size h₁.objs.size := by
    obtain ⟨o, es, ep, e, _⟩ := fr.toInCall.ns
    have := Heap.lt_size e
    rw [hL] at this
    exact this
  have hxl : @LT.lt Nat _ x s.heap.objs.size := hx.tb.lt
  have hyl : @LT.lt Nat _ y s.heap.objs.size := hy.tb.lt
  have ns₁ := fr.toInCall.ns
  refine wpAny_execs_cons (wpAny_Assign_Name (wpAny_Dict_empty ?_) (by rw [← hE]; kernel_rfl))
  refine wpAny_storeName_local kr (ns₁.push _) (fun h₂ hn₂ hs₂ => ?_) (by rw [kF]; rfl)
  dsimp only at hs₂ ⊢
  obtain ⟨d, hd⟩ : ∃ d, d = h₁.objs.size := ⟨_, rfl⟩
  have hdn : Dc w (h₁.push { cls := .type "dict", data := .dict #[] }) d [] := by
    refine ⟨[], DL.of_dictOf ?_ ?_, FA.nil⟩
    · rw [hd]; exact W₁.size
    · rw [hd]; exact Heap.DictOf.new h₁
  rw [← hd] at hn₂
  have hdl : @LT.lt Nat _ s.heap.objs.size d := by rw [hd]; exact hlt
  have hxL : x ≠ env.locals := by rw [hL]; exact neA (by omega)
  have hyL : y ≠ env.locals := by rw [hL]; exact neA (by omega)
  have hdL : d ≠ env.locals := by rw [hL]; exact neA (by omega)
  have hsL : @LE.le Nat _ s.heap.objs.size env.locals := by rw [hL]; exact Nat.le_refl _
  have k₂ : ∀ b o, b ≠ env.locals → h₁.get? b = some o → h₂.get? b = some o := fun b o hb e => (hs₂.2 b hb).trans (Heap.get?_push_of_some _ e)
  have up₂ : Up s.heap h₂ := fun b o e => k₂ b o (by rw [hL]; exact neA (Nat.ne_of_lt (Heap.lt_size e))) (up b o e)
  have hd₂ : Dc w h₂ d [] := hdn.low fun o e => (hs₂.2 d hdL).trans e
  have hds : @LT.lt Nat _ d h₂.objs.size := hd₂.tb.lt
  have f0 : DF w s.heap env.locals x y d D1 D2 [] n h₂ _ := ⟨hn₂, ⟨⟨tn, mset m1⟩, mset m2, mset m3, by simp⟩, hx.keeps up₂, hy.keeps up₂, hd₂, up₂⟩
  have hL2 : @LT.lt Nat _ env.locals h₂.objs.size := by rw [hL]; omega
  refine wpAny_execs_cons (wpAny_For (wpAny_Constant_str (iter_str (w := w) (h := h₂) _ _ _ _ rm.1 (fun _ h _ _ => nomatch h) fun o St Wk hst => ?_)) (by intro _; rfl))
  have up3 : Up h₂ (h₂.push o) := fun b o' e => Heap.get?_push_of_some _ e
  refine for_core (s := { s with heap := h₂.push o, toks := _ }) (wr := [env.locals, d]) Wk
    (fun i h => ∃ m, DF w s.heap env.locals x y d D1 D2 ((abc.take i).foldl (deed1 (n.fmod 4) D1 D2) []) n h m) hst ⟨_, f0.ns.keeps up3, f0.dm, f0.t1.keeps up3, f0.t2.keeps up3, f0.dr.keeps up3, fun b o' e => up3 _ _ (f0.up b o' e)⟩ ?_ ?_ ?_ ?_
  · intro b hb
    rcases List.mem_cons.mp hb with rfl | hb
    · exact nin2 (Nat.ne_of_gt hL2) (Nat.ne_of_gt hds)
    · cases hb
  · rintro i h h' ⟨m, f⟩ hk
    have far : ∀ b, @LT.lt Nat _ b h₂.objs.size → b ∉ [h₂.objs.size] := fun b hb => nin1 (Nat.ne_of_lt hb)
    refine ⟨m, f.ns.at' fun o e => hk _ o (far _ hL2) e, f.dm, f.t1.low fun o e => hk _ o (far _ (by omega)) e, f.t2.low fun o e => hk _ o (far _ (by omega)) e, f.dr.low fun o e => hk _ o (far _ hds) e, fun b o e => hk b o (far _ ?_) (f.up b o e)⟩
    have := Heap.lt_size e
    exact Nat.lt_trans this (Nat.lt_trans hdl hds)
  · rintro i _ h tk' E'' hi ⟨k, tk, hki, rfl⟩ ⟨m, f⟩ hk'
    refine wpAny_assign_Name (wpAny_storeName_local ke f.ns (fun h₃ hn₃ hs₃ => ?_) (by rw [kF]; rfl))
    have f3 := f.step hxL hyL hdL hsL (fun b o hb e => (hs₃.2 b hb).trans e) hn₃ (off (offW (.inl rfl)))
    have key3 : ∃ t, (fun z : Str => if z = "key" then some (Value.str k tk) else m z) "key" = some (.str k t) := ⟨tk, by simp⟩
    generalize hm3 : (fun z : Str => if z = "key" then some (Value.str k tk) else m z) = m₃ at f3 key3
    clear hn₃
    obtain ⟨tk3, key3⟩ := key3
    have keyN : ∀ {h m}, DF w s.heap env.locals x y d D1 D2 ((abc.take i).foldl (deed1 (n.fmod 4) D1 D2) []) n h m → m "key" = some (.str k tk3) → Nm env h "key" (.str k tk3) := fun f q => nm_local kF ke f.ns q
    have oneN : ∀ {h m}, DF w s.heap env.locals x y d D1 D2 ((abc.take i).foldl (deed1 (n.fmod 4) D1 D2) []) n h m → Nm env h "one" (.ref x) := fun f => nm_local kF ko f.ns f.dm.one
    have otherN : ∀ {h m}, DF w s.heap env.locals x y d D1 D2 ((abc.take i).foldl (deed1 (n.fmod 4) D1 D2) []) n h m → Nm env h "other" (.ref y) := fun f => nm_local kF kt f.ns f.dm.other
    have kindP : ∀ {h m} {c : Int} {p1 p2 p3 p4 q : Pos} {u1 u2 : Nat}, DF w s.heap env.locals x y d D1 D2 ((abc.take i).foldl (deed1 (n.fmod 4) D1 D2) []) n h m → PB w env h (.Compare (.BinOp (.Name "kind" p1) .Mod (.Constant (.int 4) u1 p2) p3) [.Eq] [.Constant (.int c) u2 p4] q) (n.fmod 4 == c) :=
      fun f => let ⟨t, e⟩ := f.dm.kind; pb_eq (pe_mod (by decide) (pe_nint (nm_local kF kk f.ns e)) pe_int) pe_int
    refine wpAny_execs_cons ?_
    refine pair_set kF kx ky ?hh ?hw ?h (hs := ?hs) (ha := ?ha)
    case hh => exact rm.1
    case hs => rfl
    case ha => rfl
    case hw => rw [← hE]; kernel_rfl
    refine (pe_get (oneN f3) (keyN f3 key3) f3.t1.tb) _ _ _ _ (rm.deeper.le (by decide)) (fun _ _ e => e) fun v s' ks ⟨tx, hv⟩ => ?_
    subst hv
    refine (pe_get (otherN f3) (keyN f3 key3) f3.t2.tb) _ _ _ _ (rm.deeper.le (by decide)) (keeps_up ks) fun v s'' ks' ⟨ty, hv⟩ => ?_
    subst hv
    obtain ⟨h₄, t₄, rfl, k₄⟩ := keeps_trans ks ks'
    refine ⟨m₃, f3.ns.keeps k₄, fun h₅ t₅ hk₅ hn₅ => ?_⟩
    have f5 := f3.step hxL hyL hdL hsL (fun b o hb e => hk₅ b o hb (k₄ b o e)) hn₅ (fun z hz => by show (if z = "x" then _ else if z = "y" then _ else m₃ z) = _; rw [if_neg (offW (.inr (.inl rfl)) z hz), if_neg (offW (.inr (.inr (.inl rfl))) z hz)])
    have q5 : (fun z : Str => if z = "x" then some (Value.int ((lk D1 k).getD 0) tx) else if z = "y" then some (Value.int ((lk D2 k).getD 0) ty) else m₃ z) "x" = some (Value.int ((lk D1 k).getD 0) tx) := by simp
    have r5 : (fun z : Str => if z = "x" then some (Value.int ((lk D1 k).getD 0) tx) else if z = "y" then some (Value.int ((lk D2 k).getD 0) ty) else m₃ z) "y" = some (Value.int ((lk D2 k).getD 0) ty) := by
      show (if ("y" : Str) = "x" then _ else if ("y" : Str) = "y" then _ else m₃ "y") = _
      rw [if_neg (by decide), if_pos rfl]
    have e5 : (fun z : Str => if z = "x" then some (Value.int ((lk D1 k).getD 0) tx) else if z = "y" then some (Value.int ((lk D2 k).getD 0) ty) else m₃ z) "key" = some (.str k tk3) := by
      show (if ("key" : Str) = "x" then _ else if ("key" : Str) = "y" then _ else m₃ "key") = _
      rw [if_neg (by decide), if_neg (by decide), key3]
    generalize hm5 : (fun z : Str => if z = "x" then some (Value.int ((lk D1 k).getD 0) tx) else if z = "y" then some (Value.int ((lk D2 k).getD 0) ty) else m₃ z) = m₅ at f5 q5 r5 e5
    clear hn₅
    refine wpAny_execs_cons ?_
    refine set_int (s := { s with heap := h₅, toks := t₅ }) kF kw f5.ns (rm.deeper.le (by decide)) pe_int (fun h₆ t₆ tw hk₆ hn₆ => ?_)
    have f6 := f5.step hxL hyL hdL hsL hk₆ hn₆ (off (offW (.inr (.inr (.inr rfl)))))
    have off6 : ∀ z : Str, z ≠ "worth" → (fun z : Str => if z = "worth" then some (Value.int 0 tw) else m₅ z) z = m₅ z := fun z hz => if_neg hz
    have w6 : ∃ t, (fun z : Str => if z = "worth" then some (Value.int 0 tw) else m₅ z) "worth" = some (.int 0 t) := ⟨tw, by simp⟩
    generalize hm6 : (fun z : Str => if z = "worth" then some (Value.int 0 tw) else m₅ z) = m₆ at f6 off6 w6
    clear hn₆
    refine wpAny_execs_cons ?_
    refine if_set (s := { s with heap := h₆, toks := t₆ }) (i := min ((lk D1 k).getD 0) ((lk D2 k).getD 0)) kF kw f6.ns w6 (rm.deeper.le (by decide)) (pb_and3 (kindP f6) (pb_in (keyN f6 ((off6 _ (by decide)).trans e5)) (oneN f6) f6.t1.tb) (pb_in (keyN f6 ((off6 _ (by decide)).trans e5)) (otherN f6) f6.t2.tb))
      (fun _ => pe_min (n_min _ f6.up) (pe_nint (nm_local kF kx f6.ns ((off6 _ (by decide)).trans q5))) (pe_nint (nm_local kF ky f6.ns ((off6 _ (by decide)).trans r5)))) (fun h₇ t₇ m₇ hk₇ hn₇ of7 w7 => ?_)
    have f7 := f6.step hxL hyL hdL hsL hk₇ hn₇ fun z hz => of7 z (offW (.inr (.inr (.inr rfl))) z hz)
    have off7 : ∀ z : Str, z ≠ "worth" → m₇ z = m₅ z := fun z hz => (of7 z hz).trans (off6 z hz)
    refine wpAny_execs_cons ?_
    refine if_set (s := { s with heap := h₇, toks := t₇ }) (i := max ((lk D1 k).getD 0) ((lk D2 k).getD 0)) kF kw f7.ns w7 (rm.deeper.le (by decide)) (kindP f7)
      (fun _ => pe_max (n_max _ f7.up) (pe_nint (nm_local kF kx f7.ns ((off7 _ (by decide)).trans q5))) (pe_nint (nm_local kF ky f7.ns ((off7 _ (by decide)).trans r5)))) (fun h₈ t₈ m₈ hk₈ hn₈ of8 w8 => ?_)
    have f8 := f7.step hxL hyL hdL hsL hk₈ hn₈ fun z hz => of8 z (offW (.inr (.inr (.inr rfl))) z hz)
    have off8 : ∀ z : Str, z ≠ "worth" → m₈ z = m₅ z := fun z hz => (of8 z hz).trans (off7 z hz)
    refine wpAny_execs_cons ?_
    refine if_set (s := { s with heap := h₈, toks := t₈ }) (i := (lk D1 k).getD 0 + (lk D2 k).getD 0) kF kw f8.ns w8 (rm.deeper.le (by decide)) (kindP f8)
      (fun _ => pe_add (pe_nint (nm_local kF kx f8.ns ((off8 _ (by decide)).trans q5))) (pe_nint (nm_local kF ky f8.ns ((off8 _ (by decide)).trans r5)))) (fun h₉ t₉ m₉ hk₉ hn₉ of9 w9 => ?_)
    have f9 := f8.step hxL hyL hdL hsL hk₉ hn₉ fun z hz => of9 z (offW (.inr (.inr (.inr rfl))) z hz)
    have off9 : ∀ z : Str, z ≠ "worth" → m₉ z = m₅ z := fun z hz => (of9 z hz).trans (off8 z hz)
    refine wpAny_execs_cons ?_
    refine if_set (s := { s with heap := h₉, toks := t₉ }) (i := (lk D1 k).getD 0 - (lk D2 k).getD 0) kF kw f9.ns w9 (rm.deeper.le (by decide)) (pb_and (kindP f9) fun _ => pb_in (keyN f9 ((off9 _ (by decide)).trans e5)) (oneN f9) f9.t1.tb)
      (fun _ => pe_subt (pe_nint (nm_local kF kx f9.ns ((off9 _ (by decide)).trans q5))) (pe_nint (nm_local kF ky f9.ns ((off9 _ (by decide)).trans r5)))) (fun ha ta ma hka hna ofa wa => ?_)
    have fa := f9.step hxL hyL hdL hsL hka hna fun z hz => ofa z (offW (.inr (.inr (.inr rfl))) z hz)
    have offa : ∀ z : Str, z ≠ "worth" → ma z = m₅ z := fun z hz => (ofa z hz).trans (off9 z hz)
    have wa' : ∃ t, ma "worth" = some (.int (deedV (n.fmod 4) D1 D2 k) t) := wa
    obtain ⟨tz, hw⟩ := wa'
    have kall : ∀ b o, b ≠ env.locals → h.get? b = some o → ha.get? b = some o := fun b o hb e => hka b o hb (hk₉ b o hb (hk₈ b o hb (hk₇ b o hb (hk₆ b o hb (hk₅ b o hb (k₄ b o ((hs₃.2 b hb).trans e)))))))
    have abci : (abc.take (i + 1)).foldl (deed1 (n.fmod 4) D1 D2) [] = deed1 (n.fmod 4) D1 D2 ((abc.take i).foldl (deed1 (n.fmod 4) D1 D2) []) k := by
      rw [List.take_add_one, show abc[i]? = some k from hki]
      simp
    have nW : Nm env ha "worth" (.int (deedV (n.fmod 4) D1 D2 k) tz) := nm_local kF kw fa.ns hw
    refine wpAny_execs_cons (wpAny_If ((pb_gt (pe_nint nW) pe_int) _ _ _ _ (rm.deeper.le (by decide)) (fun _ _ e => e) fun s' ks => ?_))
    obtain ⟨hb, tb, rfl, kb⟩ := ks
    cases hb0 : decide (0 < deedV (n.fmod 4) D1 D2 k) with
    | false =>
      rw [if_neg (by decide)]
      refine wpAny_execs_nil (wpAny_execs_nil ⟨rfl, hb, _, rfl, ⟨ma, fa.ns.keeps kb, fa.dm, fa.t1.keeps kb, fa.t2.keeps kb, ?_, fun b o e => kb _ _ (fa.up b o e)⟩, fun b o hb e => kb _ _ (kall b o (fun z => hb (by rw [z]; exact .head _)) e)⟩)
      rw [abci]; unfold deed1; rw [hb0, if_neg (by decide)]; exact fa.dr.keeps kb
    | true =>
      rw [if_pos rfl]
      refine wpAny_execs_cons (wpAny_Assign_Subscript ?_)
      have nR : Nm env ha "rows" (.ref d) := nm_local kF kr fa.ns fa.dm.rows
      refine (nW _ _) _ _ _ _ kb ((nR _ _) _ _ _ _ kb ((keyN fa ((offa _ (by decide)).trans e5) _ _) _ _ _ _ kb ?_))
      refine set_dc (fa.dr.keeps kb) (Nat.le_trans (deed_len (n.fmod 4) D1 D2 (abc.take i) []) (by rw [List.length_nil, Nat.zero_add, List.length_take]; exact Nat.le_trans (Nat.min_le_right _ _) (by decide))) fun h₇ t₇ x₇ s₇ => ?_
      refine wpAny_execs_nil (wpAny_execs_nil ⟨rfl, h₇, _, rfl, ⟨ma, (fa.ns.keeps kb).sameBut s₇ (Ne.symm hdL), fa.dm, (fa.t1.keeps kb).low fun o e => (s₇.2 _ (neA (by omega))).trans e, (fa.t2.keeps kb).low fun o e => (s₇.2 _ (neA (by omega))).trans e, ?_, ?_⟩, ?_⟩)
      · rw [abci]; unfold deed1; rw [hb0, if_pos rfl]; exact x₇
      · intro b o e
        exact (s₇.2 b (neA (by have := Heap.lt_size e; exact Nat.ne_of_lt (Nat.lt_trans this hdl)))).trans (kb _ _ (fa.up b o e))
      · intro b o hb e
        exact (s₇.2 b (fun z => hb (by rw [z]; exact .tail _ (.head _)))).trans (kb _ _ (kall b o (fun z => hb (by rw [z]; exact .head _)) e))
  · rintro h tk ⟨m, f⟩ hk'
    refine wpAny_execs_cons (wpAny_Return_some ?_)
    have nR : Nm env h "rows" (.ref d) := nm_local kF kr f.ns f.dm.rows
    refine (nR _ _) _ _ _ _ (fun _ _ e => e) ?_
    refine hR d h tk f.up (Nat.le_of_lt hdl) ?_
    have := f.dr
    rwa [List.take_of_length_le (by exact Nat.le_refl _)] at this
end Mine
end

section
open PySem PySem.W PyProof.Rows PySem.Calls Builtin
set_option linter.unusedVariables false
namespace Mine
set_option maxRecDepth 100000
set_option maxHeartbeats 4000000

section
variable {w : World} {A : Around} {E : Value → Shared → Prop} {s : Shared} {env : Env} {m : Str → Option Value}
theorem if_no {test : Expr} {body : List Stmt} {pos : Pos} {Q : Flow → Shared → Prop} (rm : Rm 20 A) (t : PB w env s.heap test false) (hQ : ∀ h' tk, Up s.heap h' → Q .next { s with heap := h', toks := tk }) :
    wpAny (model pg w) A (exec (.If test body [] pos) env) Q E s := by
  refine wpAny_If (t A _ _ s rm (fun _ _ e => e) fun s' ks => ?_)
  obtain ⟨h₁, t₁, rfl, k₁⟩ := ks
  rw [if_neg (by decide)]
  exact wpAny_execs_nil (hQ h₁ t₁ k₁)
theorem if_yes {test : Expr} {body : List Stmt} {pos : Pos} {Q : Flow → Shared → Prop} (rm : Rm 20 A) (t : PB w env s.heap test true) (hQ : ∀ h' tk, Up s.heap h' → wpAny (model pg w) A (execs body env) Q E { s with heap := h', toks := tk }) :
    wpAny (model pg w) A (exec (.If test body [] pos) env) Q E s := by
  refine wpAny_If (t A _ _ s rm (fun _ _ e => e) fun s' ks => ?_)
  obtain ⟨h₁, t₁, rfl, k₁⟩ := ks
  rw [if_pos rfl]
  exact hQ h₁ t₁ k₁
end

theorem cr_off {w : World} {h h' : Heap} {z L : Addr} {D : Ct} {m : Str → Option Value} {n : Str} {v : Value} (c : Cr w h z D) (hn : h.Ns L m) (hv : m n = some v) (hz : z ≠ L) (k : Heap.SameBut L h h') : Cr w h' z D := by
  obtain ⟨dx, hc⟩ := c.crd
  refine (hc.at (h' := h') fun b o hb e => (k.2 b ?_).trans e).cr
  rcases hb with rfl | rfl
  · exact hz
  · rintro rfl
    obtain ⟨_, _, _, ed⟩ := hc
    obtain ⟨o, es, ep, e', hd, _, hf⟩ := hn
    rw [ed] at e'
    cases e'
    cases hd
    have := hf n
    rw [hv] at this
    cases this
theorem c_do (k : Nat) (hk8 : k < 8) {w : World} {A : Around} {s : Shared} {R : Result → Shared → Prop} {x y : Addr} {D1 D2 : Ct} {tn : Tok} (rm : Rm 80 A) (W : Wd w s.heap) (hx : Cr w s.heap x D1) (hy : Cr w s.heap y D2) (hlen : D1.length ≤ 400) (hlen2 : D2.length ≤ 400)
    (hR : ∀ z h' tk, Up s.heap h' → @LE.le Nat _ s.heap.objs.size z → Cr w h' z (opD (k % 4) D1 D2) → R (.ok (.ret (.ref z))) { s with heap := h', toks := tk }) :
    codeAny (model pg w) A (.call (.ref 85) ⟨[.int (k : Int) tn, .ref x, .ref y], []⟩) R s := by
  refine call_fn (binds := [("kind", .int (k : Int) tn), ("one", .ref x), ("other", .ref y)]) (rm.le (by decide)) W rfl (by kernel_rfl) rfl (BindsTo.of_eq (by kernel_rfl)) (by kernel_rfl) (by kernel_rfl) ?_ (by kernel_rfl) (by kernel_rfl) (by kernel_rfl)
  intro s₁ E' fr
  obtain ⟨h₁, t₁, rfl, up⟩ := fr.done
  have W₁ := W.keeps up
  have hle := size_lt fr
  generalize hE : callEnvC _ s.heap.objs.size 85 = env at fr ⊢
  have hL : env.locals = s.heap.objs.size := by rw [← hE]; rfl
  have kF : env.scope.kind = .function := by rw [← hE]; kernel_rfl
  have kk : env.kindOf "kind" = some .local := by rw [← hE]; kernel_rfl
  have ko : env.kindOf "one" = some .local := by rw [← hE]; kernel_rfl
  have kt : env.kindOf "other" = some .local := by rw [← hE]; kernel_rfl
  have km : env.kindOf "made" = some .local := by rw [← hE]; kernel_rfl
  have m1 : bindL env.kindOf [("kind", .int (k : Int) tn), ("one", .ref x), ("other", .ref y)] (fun _ => none) "kind" = some (.int (k : Int) tn) := by rw [← hE]; kernel_rfl
  have m2 : bindL env.kindOf [("kind", .int (k : Int) tn), ("one", .ref x), ("other", .ref y)] (fun _ => none) "one" = some (.ref x) := by rw [← hE]; kernel_rfl
  have m3 : bindL env.kindOf [("kind", .int (k : Int) tn), ("one", .ref x), ("other", .ref y)] (fun _ => none) "other" = some (.ref y) := by rw [← hE]; kernel_rfl
  have hxl : @LT.lt Nat _ x s.heap.objs.size := (hx.tb W).lt
  have hyl : @LT.lt Nat _ y s.heap.objs.size := (hy.tb W).lt
  have hxL : x ≠ env.locals := by rw [hL]; exact neA (by omega)
  have hyL : y ≠ env.locals := by rw [hL]; exact neA (by omega)
  have ns₁ := fr.toInCall.ns
  generalize bindL env.kindOf [("kind", .int (k : Int) tn), ("one", .ref x), ("other", .ref y)] (fun _ => none) = m at m1 m2 m3 ns₁
  have kindP : ∀ {h : Heap} {m : Str → Option Value} {b : Bool} (c : Int) {p1 p2 q : Pos} {u : Nat}, h.Ns env.locals m → m "kind" = some (.int (k : Int) tn) → ((k : Int) == c) = b → PB w env h (.Compare (.Name "kind" p1) [.Eq] [.Constant (.int c) u p2] q) b :=
    fun c _ _ _ _ hn q e => e ▸ pb_eq (pe_nint (nm_local kF kk hn q)) pe_int
  have u : Up s.heap h₁ := up
  have hsz : ∀ {h : Heap} {m : Str → Option Value}, h.Ns env.locals m → @LE.le Nat _ s.heap.objs.size h.objs.size := fun hn => by have := hn.lt; rw [hL] at this; exact Nat.le_of_lt this
  clear hE fr up W₁ hle
  generalize t₁ = tk₁
  rcases (by omega : k = 0 ∨ k = 1 ∨ k = 2 ∨ k = 3 ∨ k = 4 ∨ k = 5 ∨ k = 6 ∨ k = 7) with rfl | rfl | rfl | rfl | rfl | rfl | rfl | rfl
  · refine wpAny_execs_cons ?_
    refine if_yes (rm.deeper.le (by decide)) (kindP 0 ns₁ m1 (by decide)) fun h₃ tk₃ k₃ => ?_
    have u₃ : Up s.heap h₃ := fun b o e => k₃ b o (u b o e)
    have n1 : Nm env h₃ "one" (.ref x) := nm_local kF ko (ns₁.keeps k₃) m2
    have n2 : Nm env h₃ "other" (.ref y) := nm_local kF kt (ns₁.keeps k₃) m3
    refine wpAny_execs_cons (wpAny_Return_some (wpAny_BinOp ?_))
    refine (n1 _ _) _ _ _ _ (fun _ _ e => e) ((n2 _ _) _ _ _ _ (fun _ _ e => e) ?_)
    refine op_ctr 0 (s := { s with heap := h₃, toks := tk₃ }) (rm.deeper.le (by decide)) (W.keeps u₃) (hx.keeps u₃) (hy.keeps u₃) hlen hlen2 fun z h' tk kk l c => ?_
    exact hR z h' tk (fun b o e => kk b o (u₃ b o e)) (Nat.le_trans (hsz (ns₁.keeps k₃)) l) c
  · refine wpAny_execs_cons ?_
    refine if_no (rm.deeper.le (by decide)) (kindP 0 ns₁ m1 (by decide)) fun h₂ tk₂ k₂ => ?_
    replace u : Up s.heap h₂ := fun b o e => k₂ b o (u b o e)
    replace ns₁ := ns₁.keeps k₂
    clear k₂
    refine wpAny_execs_cons ?_
    refine if_yes (rm.deeper.le (by decide)) (kindP 1 ns₁ m1 (by decide)) fun h₃ tk₃ k₃ => ?_
    have u₃ : Up s.heap h₃ := fun b o e => k₃ b o (u b o e)
    have n1 : Nm env h₃ "one" (.ref x) := nm_local kF ko (ns₁.keeps k₃) m2
    have n2 : Nm env h₃ "other" (.ref y) := nm_local kF kt (ns₁.keeps k₃) m3
    refine wpAny_execs_cons (wpAny_Return_some (wpAny_BinOp ?_))
    refine (n1 _ _) _ _ _ _ (fun _ _ e => e) ((n2 _ _) _ _ _ _ (fun _ _ e => e) ?_)
    refine op_ctr 1 (s := { s with heap := h₃, toks := tk₃ }) (rm.deeper.le (by decide)) (W.keeps u₃) (hx.keeps u₃) (hy.keeps u₃) hlen hlen2 fun z h' tk kk l c => ?_
    exact hR z h' tk (fun b o e => kk b o (u₃ b o e)) (Nat.le_trans (hsz (ns₁.keeps k₃)) l) c
  · refine wpAny_execs_cons ?_
    refine if_no (rm.deeper.le (by decide)) (kindP 0 ns₁ m1 (by decide)) fun h₂ tk₂ k₂ => ?_
    replace u : Up s.heap h₂ := fun b o e => k₂ b o (u b o e)
    replace ns₁ := ns₁.keeps k₂
    clear k₂
    refine wpAny_execs_cons ?_
    refine if_no (rm.deeper.le (by decide)) (kindP 1 ns₁ m1 (by decide)) fun h₂ tk₂ k₂ => ?_
    replace u : Up s.heap h₂ := fun b o e => k₂ b o (u b o e)
    replace ns₁ := ns₁.keeps k₂
    clear k₂
    refine wpAny_execs_cons ?_
    refine if_yes (rm.deeper.le (by decide)) (kindP 2 ns₁ m1 (by decide)) fun h₃ tk₃ k₃ => ?_
    have u₃ : Up s.heap h₃ := fun b o e => k₃ b o (u b o e)
    have n1 : Nm env h₃ "one" (.ref x) := nm_local kF ko (ns₁.keeps k₃) m2
    have n2 : Nm env h₃ "other" (.ref y) := nm_local kF kt (ns₁.keeps k₃) m3
    refine wpAny_execs_cons (wpAny_Return_some (wpAny_BinOp ?_))
    refine (n1 _ _) _ _ _ _ (fun _ _ e => e) ((n2 _ _) _ _ _ _ (fun _ _ e => e) ?_)
    refine op_ctr 2 (s := { s with heap := h₃, toks := tk₃ }) (rm.deeper.le (by decide)) (W.keeps u₃) (hx.keeps u₃) (hy.keeps u₃) hlen hlen2 fun z h' tk kk l c => ?_
    exact hR z h' tk (fun b o e => kk b o (u₃ b o e)) (Nat.le_trans (hsz (ns₁.keeps k₃)) l) c
  · refine wpAny_execs_cons ?_
    refine if_no (rm.deeper.le (by decide)) (kindP 0 ns₁ m1 (by decide)) fun h₂ tk₂ k₂ => ?_
    replace u : Up s.heap h₂ := fun b o e => k₂ b o (u b o e)
    replace ns₁ := ns₁.keeps k₂
    clear k₂
    refine wpAny_execs_cons ?_
    refine if_no (rm.deeper.le (by decide)) (kindP 1 ns₁ m1 (by decide)) fun h₂ tk₂ k₂ => ?_
    replace u : Up s.heap h₂ := fun b o e => k₂ b o (u b o e)
    replace ns₁ := ns₁.keeps k₂
    clear k₂
    refine wpAny_execs_cons ?_
    refine if_no (rm.deeper.le (by decide)) (kindP 2 ns₁ m1 (by decide)) fun h₂ tk₂ k₂ => ?_
    replace u : Up s.heap h₂ := fun b o e => k₂ b o (u b o e)
    replace ns₁ := ns₁.keeps k₂
    clear k₂
    refine wpAny_execs_cons ?_
    refine if_yes (rm.deeper.le (by decide)) (kindP 3 ns₁ m1 (by decide)) fun h₃ tk₃ k₃ => ?_
    have u₃ : Up s.heap h₃ := fun b o e => k₃ b o (u b o e)
    have n1 : Nm env h₃ "one" (.ref x) := nm_local kF ko (ns₁.keeps k₃) m2
    have n2 : Nm env h₃ "other" (.ref y) := nm_local kF kt (ns₁.keeps k₃) m3
    refine wpAny_execs_cons (wpAny_Return_some (wpAny_BinOp ?_))
    refine (n1 _ _) _ _ _ _ (fun _ _ e => e) ((n2 _ _) _ _ _ _ (fun _ _ e => e) ?_)
    refine op_ctr 3 (s := { s with heap := h₃, toks := tk₃ }) (rm.deeper.le (by decide)) (W.keeps u₃) (hx.keeps u₃) (hy.keeps u₃) hlen hlen2 fun z h' tk kk l c => ?_
    exact hR z h' tk (fun b o e => kk b o (u₃ b o e)) (Nat.le_trans (hsz (ns₁.keeps k₃)) l) c
  · refine wpAny_execs_cons ?_
    refine if_no (rm.deeper.le (by decide)) (kindP 0 ns₁ m1 (by decide)) fun h₂ tk₂ k₂ => ?_
    replace u : Up s.heap h₂ := fun b o e => k₂ b o (u b o e)
    replace ns₁ := ns₁.keeps k₂
    clear k₂
    refine wpAny_execs_cons ?_
    refine if_no (rm.deeper.le (by decide)) (kindP 1 ns₁ m1 (by decide)) fun h₂ tk₂ k₂ => ?_
    replace u : Up s.heap h₂ := fun b o e => k₂ b o (u b o e)
    replace ns₁ := ns₁.keeps k₂
    clear k₂
    refine wpAny_execs_cons ?_
    refine if_no (rm.deeper.le (by decide)) (kindP 2 ns₁ m1 (by decide)) fun h₂ tk₂ k₂ => ?_
    replace u : Up s.heap h₂ := fun b o e => k₂ b o (u b o e)
    replace ns₁ := ns₁.keeps k₂
    clear k₂
    refine wpAny_execs_cons ?_
    refine if_no (rm.deeper.le (by decide)) (kindP 3 ns₁ m1 (by decide)) fun h₂ tk₂ k₂ => ?_
    replace u : Up s.heap h₂ := fun b o e => k₂ b o (u b o e)
    replace ns₁ := ns₁.keeps k₂
    clear k₂
    have n1 : Nm env h₂ "one" (.ref x) := nm_local kF ko ns₁ m2
    refine wpAny_execs_cons (wpAny_Assign_Name ((n1 _ _) _ _ _ _ (fun _ _ e => e) (wpAny_storeName_local km ns₁ (fun h₃ hn₃ hs₃ => ?_) (by rw [kF]; rfl))))
    have q1 : (fun z : Str => if z = "made" then some (Value.ref x) else m z) "kind" = some (.int (4 : Nat) tn) := mset m1
    have q3 : (fun z : Str => if z = "made" then some (Value.ref x) else m z) "other" = some (.ref y) := mset m3
    have q4 : (fun z : Str => if z = "made" then some (Value.ref x) else m z) "made" = some (.ref x) := by simp
    generalize (fun z : Str => if z = "made" then some (Value.ref x) else m z) = mm at q1 q3 q4 hn₃
    replace u : Up s.heap h₃ := fun b o e => (hs₃.2 b (by rw [hL]; exact neA (Nat.ne_of_lt (Heap.lt_size e)))).trans (u b o e)
    clear ns₁ n1
    refine wpAny_execs_cons ?_
    refine if_yes (rm.deeper.le (by decide)) (kindP 4 hn₃ q1 (by decide)) fun h₄ tk₄ k₄ => ?_
    have u₄ : Up s.heap h₄ := fun b o e => k₄ b o (u b o e)
    have n2 : Nm env h₄ "other" (.ref y) := nm_local kF kt (hn₃.keeps k₄) q3
    refine wpAny_execs_cons (wpAny_AugAssign_Name (wpAny_loadName_local kF km (hn₃.keeps k₄) q4 ((n2 _ _) _ _ _ _ (fun _ _ e => e) ?_)))
    refine iop_ctr 0 (s := { s with heap := h₄, toks := tk₄ }) (rm.deeper.le (by decide)) (W.keeps u₄) (hx.keeps u₄) (hy.keeps u₄) hlen hlen2 fun z h₅ tk₅ k₅ l c => ?_
    refine wpAny_storeName_local km ((hn₃.keeps k₄).keeps k₅) (fun h₆ hn₆ hs₆ => ?_) (by rw [kF]; rfl)
    have hz : @LE.le Nat _ s.heap.objs.size z := Nat.le_trans (hsz (hn₃.keeps k₄)) l
    have hzL : z ≠ env.locals := by obtain ⟨o, es, ep, e, _⟩ := hn₃.keeps k₄; exact neA (Nat.ne_of_gt (Nat.lt_of_lt_of_le (Heap.lt_size e) l))
    have hc : Cr w h₆ z (opD 0 D1 D2) := cr_off c ((hn₃.keeps k₄).keeps k₅) q1 hzL hs₆
    replace u : Up s.heap h₆ := fun b o e => (hs₆.2 b (by rw [hL]; exact neA (Nat.ne_of_lt (Heap.lt_size e)))).trans (k₅ b o (u₄ b o e))
    replace hn₃ := hn₆
    have q1' : (fun z_1 : Str => if z_1 = "made" then some (Value.ref z) else mm z_1) "kind" = some (.int (4 : Nat) tn) := mset q1
    have q4' : (fun z_1 : Str => if z_1 = "made" then some (Value.ref z) else mm z_1) "made" = some (.ref z) := by simp
    generalize (fun z_1 : Str => if z_1 = "made" then some (Value.ref z) else mm z_1) = m6 at q1' q4' hn₃
    refine wpAny_execs_nil ?_
    refine wpAny_execs_cons ?_
    refine if_no (rm.deeper.le (by decide)) (kindP 5 hn₃ q1' (by decide)) fun h₂ tk₂ k₂ => ?_
    replace u : Up s.heap h₂ := fun b o e => k₂ b o (u b o e)
    replace hc := hc.keeps k₂
    replace hn₃ := hn₃.keeps k₂
    clear k₂
    refine wpAny_execs_cons ?_
    refine if_no (rm.deeper.le (by decide)) (kindP 6 hn₃ q1' (by decide)) fun h₂ tk₂ k₂ => ?_
    replace u : Up s.heap h₂ := fun b o e => k₂ b o (u b o e)
    replace hc := hc.keeps k₂
    replace hn₃ := hn₃.keeps k₂
    clear k₂
    refine wpAny_execs_cons ?_
    refine if_no (rm.deeper.le (by decide)) (kindP 7 hn₃ q1' (by decide)) fun h₂ tk₂ k₂ => ?_
    replace u : Up s.heap h₂ := fun b o e => k₂ b o (u b o e)
    replace hc := hc.keeps k₂
    replace hn₃ := hn₃.keeps k₂
    clear k₂
    have n4 := nm_local kF km hn₃ q4'
    refine wpAny_execs_cons (wpAny_Return_some ((n4 _ _) _ _ _ _ (fun _ _ e => e) ?_))
    exact hR z _ _ u hz hc
  · refine wpAny_execs_cons ?_
    refine if_no (rm.deeper.le (by decide)) (kindP 0 ns₁ m1 (by decide)) fun h₂ tk₂ k₂ => ?_
    replace u : Up s.heap h₂ := fun b o e => k₂ b o (u b o e)
    replace ns₁ := ns₁.keeps k₂
    clear k₂
    refine wpAny_execs_cons ?_
    refine if_no (rm.deeper.le (by decide)) (kindP 1 ns₁ m1 (by decide)) fun h₂ tk₂ k₂ => ?_
    replace u : Up s.heap h₂ := fun b o e => k₂ b o (u b o e)
    replace ns₁ := ns₁.keeps k₂
    clear k₂
    refine wpAny_execs_cons ?_
    refine if_no (rm.deeper.le (by decide)) (kindP 2 ns₁ m1 (by decide)) fun h₂ tk₂ k₂ => ?_
    replace u : Up s.heap h₂ := fun b o e => k₂ b o (u b o e)
    replace ns₁ := ns₁.keeps k₂
    clear k₂
    refine wpAny_execs_cons ?_
    refine if_no (rm.deeper.le (by decide)) (kindP 3 ns₁ m1 (by decide)) fun h₂ tk₂ k₂ => ?_
    replace u : Up s.heap h₂ := fun b o e => k₂ b o (u b o e)
    replace ns₁ := ns₁.keeps k₂
    clear k₂
    have n1 : Nm env h₂ "one" (.ref x) := nm_local kF ko ns₁ m2
    refine wpAny_execs_cons (wpAny_Assign_Name ((n1 _ _) _ _ _ _ (fun _ _ e => e) (wpAny_storeName_local km ns₁ (fun h₃ hn₃ hs₃ => ?_) (by rw [kF]; rfl))))
    have q1 : (fun z : Str => if z = "made" then some (Value.ref x) else m z) "kind" = some (.int (5 : Nat) tn) := mset m1
    have q3 : (fun z : Str => if z = "made" then some (Value.ref x) else m z) "other" = some (.ref y) := mset m3
    have q4 : (fun z : Str => if z = "made" then some (Value.ref x) else m z) "made" = some (.ref x) := by simp
    generalize (fun z : Str => if z = "made" then some (Value.ref x) else m z) = mm at q1 q3 q4 hn₃
    replace u : Up s.heap h₃ := fun b o e => (hs₃.2 b (by rw [hL]; exact neA (Nat.ne_of_lt (Heap.lt_size e)))).trans (u b o e)
    clear ns₁ n1
    refine wpAny_execs_cons ?_
    refine if_no (rm.deeper.le (by decide)) (kindP 4 hn₃ q1 (by decide)) fun h₂ tk₂ k₂ => ?_
    replace u : Up s.heap h₂ := fun b o e => k₂ b o (u b o e)
    replace hn₃ := hn₃.keeps k₂
    clear k₂
    refine wpAny_execs_cons ?_
    refine if_yes (rm.deeper.le (by decide)) (kindP 5 hn₃ q1 (by decide)) fun h₄ tk₄ k₄ => ?_
    have u₄ : Up s.heap h₄ := fun b o e => k₄ b o (u b o e)
    have n2 : Nm env h₄ "other" (.ref y) := nm_local kF kt (hn₃.keeps k₄) q3
    refine wpAny_execs_cons (wpAny_AugAssign_Name (wpAny_loadName_local kF km (hn₃.keeps k₄) q4 ((n2 _ _) _ _ _ _ (fun _ _ e => e) ?_)))
    refine iop_ctr 1 (s := { s with heap := h₄, toks := tk₄ }) (rm.deeper.le (by decide)) (W.keeps u₄) (hx.keeps u₄) (hy.keeps u₄) hlen hlen2 fun z h₅ tk₅ k₅ l c => ?_
    refine wpAny_storeName_local km ((hn₃.keeps k₄).keeps k₅) (fun h₆ hn₆ hs₆ => ?_) (by rw [kF]; rfl)
    have hz : @LE.le Nat _ s.heap.objs.size z := Nat.le_trans (hsz (hn₃.keeps k₄)) l
    have hzL : z ≠ env.locals := by obtain ⟨o, es, ep, e, _⟩ := hn₃.keeps k₄; exact neA (Nat.ne_of_gt (Nat.lt_of_lt_of_le (Heap.lt_size e) l))
    have hc : Cr w h₆ z (opD 1 D1 D2) := cr_off c ((hn₃.keeps k₄).keeps k₅) q1 hzL hs₆
    replace u : Up s.heap h₆ := fun b o e => (hs₆.2 b (by rw [hL]; exact neA (Nat.ne_of_lt (Heap.lt_size e)))).trans (k₅ b o (u₄ b o e))
    replace hn₃ := hn₆
    have q1' : (fun z_1 : Str => if z_1 = "made" then some (Value.ref z) else mm z_1) "kind" = some (.int (5 : Nat) tn) := mset q1
    have q4' : (fun z_1 : Str => if z_1 = "made" then some (Value.ref z) else mm z_1) "made" = some (.ref z) := by simp
    generalize (fun z_1 : Str => if z_1 = "made" then some (Value.ref z) else mm z_1) = m6 at q1' q4' hn₃
    refine wpAny_execs_nil ?_
    refine wpAny_execs_cons ?_
    refine if_no (rm.deeper.le (by decide)) (kindP 6 hn₃ q1' (by decide)) fun h₂ tk₂ k₂ => ?_
    replace u : Up s.heap h₂ := fun b o e => k₂ b o (u b o e)
    replace hc := hc.keeps k₂
    replace hn₃ := hn₃.keeps k₂
    clear k₂
    refine wpAny_execs_cons ?_
    refine if_no (rm.deeper.le (by decide)) (kindP 7 hn₃ q1' (by decide)) fun h₂ tk₂ k₂ => ?_
    replace u : Up s.heap h₂ := fun b o e => k₂ b o (u b o e)
    replace hc := hc.keeps k₂
    replace hn₃ := hn₃.keeps k₂
    clear k₂
    have n4 := nm_local kF km hn₃ q4'
    refine wpAny_execs_cons (wpAny_Return_some ((n4 _ _) _ _ _ _ (fun _ _ e => e) ?_))
    exact hR z _ _ u hz hc
  · refine wpAny_execs_cons ?_
    refine if_no (rm.deeper.le (by decide)) (kindP 0 ns₁ m1 (by decide)) fun h₂ tk₂ k₂ => ?_
    replace u : Up s.heap h₂ := fun b o e => k₂ b o (u b o e)
    replace ns₁ := ns₁.keeps k₂
    clear k₂
    refine wpAny_execs_cons ?_
    refine if_no (rm.deeper.le (by decide)) (kindP 1 ns₁ m1 (by decide)) fun h₂ tk₂ k₂ => ?_
    replace u : Up s.heap h₂ := fun b o e => k₂ b o (u b o e)
    replace ns₁ := ns₁.keeps k₂
    clear k₂
    refine wpAny_execs_cons ?_
    refine if_no (rm.deeper.le (by decide)) (kindP 2 ns₁ m1 (by decide)) fun h₂ tk₂ k₂ => ?_
    replace u : Up s.heap h₂ := fun b o e => k₂ b o (u b o e)
    replace ns₁ := ns₁.keeps k₂
    clear k₂
    refine wpAny_execs_cons ?_
    refine if_no (rm.deeper.le (by decide)) (kindP 3 ns₁ m1 (by decide)) fun h₂ tk₂ k₂ => ?_
    replace u : Up s.heap h₂ := fun b o e => k₂ b o (u b o e)
    replace ns₁ := ns₁.keeps k₂
    clear k₂
    have n1 : Nm env h₂ "one" (.ref x) := nm_local kF ko ns₁ m2
    refine wpAny_execs_cons (wpAny_Assign_Name ((n1 _ _) _ _ _ _ (fun _ _ e => e) (wpAny_storeName_local km ns₁ (fun h₃ hn₃ hs₃ => ?_) (by rw [kF]; rfl))))
    have q1 : (fun z : Str => if z = "made" then some (Value.ref x) else m z) "kind" = some (.int (6 : Nat) tn) := mset m1
    have q3 : (fun z : Str => if z = "made" then some (Value.ref x) else m z) "other" = some (.ref y) := mset m3
    have q4 : (fun z : Str => if z = "made" then some (Value.ref x) else m z) "made" = some (.ref x) := by simp
    generalize (fun z : Str => if z = "made" then some (Value.ref x) else m z) = mm at q1 q3 q4 hn₃
    replace u : Up s.heap h₃ := fun b o e => (hs₃.2 b (by rw [hL]; exact neA (Nat.ne_of_lt (Heap.lt_size e)))).trans (u b o e)
    clear ns₁ n1
    refine wpAny_execs_cons ?_
    refine if_no (rm.deeper.le (by decide)) (kindP 4 hn₃ q1 (by decide)) fun h₂ tk₂ k₂ => ?_
    replace u : Up s.heap h₂ := fun b o e => k₂ b o (u b o e)
    replace hn₃ := hn₃.keeps k₂
    clear k₂
    refine wpAny_execs_cons ?_
    refine if_no (rm.deeper.le (by decide)) (kindP 5 hn₃ q1 (by decide)) fun h₂ tk₂ k₂ => ?_
    replace u : Up s.heap h₂ := fun b o e => k₂ b o (u b o e)
    replace hn₃ := hn₃.keeps k₂
    clear k₂
    refine wpAny_execs_cons ?_
    refine if_yes (rm.deeper.le (by decide)) (kindP 6 hn₃ q1 (by decide)) fun h₄ tk₄ k₄ => ?_
    have u₄ : Up s.heap h₄ := fun b o e => k₄ b o (u b o e)
    have n2 : Nm env h₄ "other" (.ref y) := nm_local kF kt (hn₃.keeps k₄) q3
    refine wpAny_execs_cons (wpAny_AugAssign_Name (wpAny_loadName_local kF km (hn₃.keeps k₄) q4 ((n2 _ _) _ _ _ _ (fun _ _ e => e) ?_)))
    refine iop_ctr 2 (s := { s with heap := h₄, toks := tk₄ }) (rm.deeper.le (by decide)) (W.keeps u₄) (hx.keeps u₄) (hy.keeps u₄) hlen hlen2 fun z h₅ tk₅ k₅ l c => ?_
    refine wpAny_storeName_local km ((hn₃.keeps k₄).keeps k₅) (fun h₆ hn₆ hs₆ => ?_) (by rw [kF]; rfl)
    have hz : @LE.le Nat _ s.heap.objs.size z := Nat.le_trans (hsz (hn₃.keeps k₄)) l
    have hzL : z ≠ env.locals := by obtain ⟨o, es, ep, e, _⟩ := hn₃.keeps k₄; exact neA (Nat.ne_of_gt (Nat.lt_of_lt_of_le (Heap.lt_size e) l))
    have hc : Cr w h₆ z (opD 2 D1 D2) := cr_off c ((hn₃.keeps k₄).keeps k₅) q1 hzL hs₆
    replace u : Up s.heap h₆ := fun b o e => (hs₆.2 b (by rw [hL]; exact neA (Nat.ne_of_lt (Heap.lt_size e)))).trans (k₅ b o (u₄ b o e))
    replace hn₃ := hn₆
    have q1' : (fun z_1 : Str => if z_1 = "made" then some (Value.ref z) else mm z_1) "kind" = some (.int (6 : Nat) tn) := mset q1
    have q4' : (fun z_1 : Str => if z_1 = "made" then some (Value.ref z) else mm z_1) "made" = some (.ref z) := by simp
    generalize (fun z_1 : Str => if z_1 = "made" then some (Value.ref z) else mm z_1) = m6 at q1' q4' hn₃
    refine wpAny_execs_nil ?_
    refine wpAny_execs_cons ?_
    refine if_no (rm.deeper.le (by decide)) (kindP 7 hn₃ q1' (by decide)) fun h₂ tk₂ k₂ => ?_
    replace u : Up s.heap h₂ := fun b o e => k₂ b o (u b o e)
    replace hc := hc.keeps k₂
    replace hn₃ := hn₃.keeps k₂
    clear k₂
    have n4 := nm_local kF km hn₃ q4'
    refine wpAny_execs_cons (wpAny_Return_some ((n4 _ _) _ _ _ _ (fun _ _ e => e) ?_))
    exact hR z _ _ u hz hc
  · refine wpAny_execs_cons ?_
    refine if_no (rm.deeper.le (by decide)) (kindP 0 ns₁ m1 (by decide)) fun h₂ tk₂ k₂ => ?_
    replace u : Up s.heap h₂ := fun b o e => k₂ b o (u b o e)
    replace ns₁ := ns₁.keeps k₂
    clear k₂
    refine wpAny_execs_cons ?_
    refine if_no (rm.deeper.le (by decide)) (kindP 1 ns₁ m1 (by decide)) fun h₂ tk₂ k₂ => ?_
    replace u : Up s.heap h₂ := fun b o e => k₂ b o (u b o e)
    replace ns₁ := ns₁.keeps k₂
    clear k₂
    refine wpAny_execs_cons ?_
    refine if_no (rm.deeper.le (by decide)) (kindP 2 ns₁ m1 (by decide)) fun h₂ tk₂ k₂ => ?_
    replace u : Up s.heap h₂ := fun b o e => k₂ b o (u b o e)
    replace ns₁ := ns₁.keeps k₂
    clear k₂
    refine wpAny_execs_cons ?_
    refine if_no (rm.deeper.le (by decide)) (kindP 3 ns₁ m1 (by decide)) fun h₂ tk₂ k₂ => ?_
    replace u : Up s.heap h₂ := fun b o e => k₂ b o (u b o e)
    replace ns₁ := ns₁.keeps k₂
    clear k₂
    have n1 : Nm env h₂ "one" (.ref x) := nm_local kF ko ns₁ m2
    refine wpAny_execs_cons (wpAny_Assign_Name ((n1 _ _) _ _ _ _ (fun _ _ e => e) (wpAny_storeName_local km ns₁ (fun h₃ hn₃ hs₃ => ?_) (by rw [kF]; rfl))))
    have q1 : (fun z : Str => if z = "made" then some (Value.ref x) else m z) "kind" = some (.int (7 : Nat) tn) := mset m1
    have q3 : (fun z : Str => if z = "made" then some (Value.ref x) else m z) "other" = some (.ref y) := mset m3
    have q4 : (fun z : Str => if z = "made" then some (Value.ref x) else m z) "made" = some (.ref x) := by simp
    generalize (fun z : Str => if z = "made" then some (Value.ref x) else m z) = mm at q1 q3 q4 hn₃
    replace u : Up s.heap h₃ := fun b o e => (hs₃.2 b (by rw [hL]; exact neA (Nat.ne_of_lt (Heap.lt_size e)))).trans (u b o e)
    clear ns₁ n1
    refine wpAny_execs_cons ?_
    refine if_no (rm.deeper.le (by decide)) (kindP 4 hn₃ q1 (by decide)) fun h₂ tk₂ k₂ => ?_
    replace u : Up s.heap h₂ := fun b o e => k₂ b o (u b o e)
    replace hn₃ := hn₃.keeps k₂
    clear k₂
    refine wpAny_execs_cons ?_
    refine if_no (rm.deeper.le (by decide)) (kindP 5 hn₃ q1 (by decide)) fun h₂ tk₂ k₂ => ?_
    replace u : Up s.heap h₂ := fun b o e => k₂ b o (u b o e)
    replace hn₃ := hn₃.keeps k₂
    clear k₂
    refine wpAny_execs_cons ?_
    refine if_no (rm.deeper.le (by decide)) (kindP 6 hn₃ q1 (by decide)) fun h₂ tk₂ k₂ => ?_
    replace u : Up s.heap h₂ := fun b o e => k₂ b o (u b o e)
    replace hn₃ := hn₃.keeps k₂
    clear k₂
    refine wpAny_execs_cons ?_
    refine if_yes (rm.deeper.le (by decide)) (kindP 7 hn₃ q1 (by decide)) fun h₄ tk₄ k₄ => ?_
    have u₄ : Up s.heap h₄ := fun b o e => k₄ b o (u b o e)
    have n2 : Nm env h₄ "other" (.ref y) := nm_local kF kt (hn₃.keeps k₄) q3
    refine wpAny_execs_cons (wpAny_AugAssign_Name (wpAny_loadName_local kF km (hn₃.keeps k₄) q4 ((n2 _ _) _ _ _ _ (fun _ _ e => e) ?_)))
    refine iop_ctr 3 (s := { s with heap := h₄, toks := tk₄ }) (rm.deeper.le (by decide)) (W.keeps u₄) (hx.keeps u₄) (hy.keeps u₄) hlen hlen2 fun z h₅ tk₅ k₅ l c => ?_
    refine wpAny_storeName_local km ((hn₃.keeps k₄).keeps k₅) (fun h₆ hn₆ hs₆ => ?_) (by rw [kF]; rfl)
    have hz : @LE.le Nat _ s.heap.objs.size z := Nat.le_trans (hsz (hn₃.keeps k₄)) l
    have hzL : z ≠ env.locals := by obtain ⟨o, es, ep, e, _⟩ := hn₃.keeps k₄; exact neA (Nat.ne_of_gt (Nat.lt_of_lt_of_le (Heap.lt_size e) l))
    have hc : Cr w h₆ z (opD 3 D1 D2) := cr_off c ((hn₃.keeps k₄).keeps k₅) q1 hzL hs₆
    replace u : Up s.heap h₆ := fun b o e => (hs₆.2 b (by rw [hL]; exact neA (Nat.ne_of_lt (Heap.lt_size e)))).trans (k₅ b o (u₄ b o e))
    replace hn₃ := hn₆
    have q1' : (fun z_1 : Str => if z_1 = "made" then some (Value.ref z) else mm z_1) "kind" = some (.int (7 : Nat) tn) := mset q1
    have q4' : (fun z_1 : Str => if z_1 = "made" then some (Value.ref z) else mm z_1) "made" = some (.ref z) := by simp
    generalize (fun z_1 : Str => if z_1 = "made" then some (Value.ref z) else mm z_1) = m6 at q1' q4' hn₃
    refine wpAny_execs_nil ?_
    have n4 := nm_local kF km hn₃ q4'
    refine wpAny_execs_cons (wpAny_Return_some ((n4 _ _) _ _ _ _ (fun _ _ e => e) ?_))
    exact hR z _ _ u hz hc
end Mine
end

section
open PySem PySem.W PyProof.Rows PySem.Calls Builtin
set_option linter.unusedVariables false
namespace Mine
set_option maxRecDepth 100000
set_option maxHeartbeats 4000000

theorem lk_nil (x : Str) : lk [] x = none := rfl
theorem lk_cons (p : Str × Int) (q : Ct) (x : Str) : lk (p :: q) x = if p.1 = x then some p.2 else lk q x := by
  unfold lk
  rw [List.find?_cons]
  by_cases e : p.1 = x <;> simp [e]
theorem lk_app (p q : Ct) (x : Str) : lk (p ++ q) x = (lk p x).or (lk q x) := by
  induction p with
  | nil => rfl
  | cons a r ih =>
    rw [List.cons_append, lk_cons, lk_cons, ih]
    by_cases e : a.1 = x
    · rw [if_pos e, if_pos e]; rfl
    · rw [if_neg e, if_neg e]
theorem mem_keys {D : Ct} {x : Str} : x ∈ D.map (·.1) ↔ (lk D x).isSome = true := by
  constructor
  · intro h; obtain ⟨v, e⟩ := lk_mem h; rw [e]; rfl
  · intro h
    by_cases e : x ∈ D.map (·.1)
    · exact e
    · rw [lk_none e] at h; cases h
theorem lk_upd (D : Ct) (k x : Str) (v : Int) : lk (D.map fun p => if p.1 = k then (p.1, v) else p) x = if x = k then (if (lk D k).isSome then some v else none) else lk D x := by
  induction D with
  | nil => simp [lk_nil]
  | cons p q ih =>
    rw [List.map_cons, lk_cons, lk_cons, lk_cons, ih]
    by_cases e : p.1 = k
    · subst e
      by_cases e2 : p.1 = x
      · subst e2; simp
      · have : ¬ x = p.1 := fun h => e2 h.symm
        simp [e2, this]
    · by_cases e2 : p.1 = x
      · subst e2; simp [e]
      · simp [e, e2]
theorem lk_st (D : Ct) (k x : Str) (v : Int) : lk (st D k v) x = if x = k then some v else lk D x := by
  unfold st
  split
  · rename_i h
    rw [lk_upd]
    have : (lk D k).isSome = true := by
      apply mem_keys.mp
      obtain ⟨p, hp, e⟩ := List.any_eq_true.mp h
      exact List.mem_map.mpr ⟨p, hp, of_decide_eq_true e⟩
    rw [this]; simp
  · rename_i h
    rw [lk_app, lk_cons, lk_nil]
    by_cases e : x = k
    · subst e
      have : lk D x = none := by
        apply lk_none
        intro hm
        obtain ⟨p, hp, e⟩ := List.mem_map.mp hm
        exact h (List.any_eq_true.mpr ⟨p, hp, decide_eq_true e⟩)
      rw [this]; simp
    · have : ¬ k = x := fun h => e h.symm
      simp [e, this]
theorem lk_map (l : List Str) (p : Str → Bool) (f : Str → Int) (x : Str) : lk ((l.filter p).map fun k => (k, f k)) x = if x ∈ l ∧ p x = true then some (f x) else none := by
  induction l with
  | nil => simp [lk_nil]
  | cons a r ih =>
    rw [List.filter_cons]
    by_cases e : p a = true
    · rw [if_pos e, List.map_cons, lk_cons, ih]
      by_cases e2 : a = x
      · subst e2; simp [e]
      · have : ¬ x = a := fun h => e2 h.symm
        simp [e2, this]
    · rw [if_neg e, ih]
      by_cases e2 : x = a
      · subst e2; simp [e]
      · simp [e2]
theorem lk_mapD (f : Str → Int) (D : Ct) (x : Str) : lk (mapD f D) x = if (lk D x).isSome = true then some (f x) else none := by
  unfold mapD
  rw [lk_map]
  by_cases e : (lk D x).isSome = true
  · rw [if_pos ⟨mem_keys.mpr e, rfl⟩, if_pos e]
  · rw [if_neg (fun h => e (mem_keys.mp h.1)), if_neg e]
theorem lk_posD (r : Ct) (x : Str) : lk (posD r) x = if 0 < (lk r x).getD 0 then some ((lk r x).getD 0) else none := by
  unfold posD
  rw [lk_map]
  by_cases e : 0 < (lk r x).getD 0
  · have hs : (lk r x).isSome = true := by
      cases h : lk r x with
      | none => rw [h] at e; exact absurd e (by decide)
      | some v => rfl
    rw [if_pos e, if_pos ⟨mem_keys.mpr hs, decide_eq_true e⟩]
  · rw [if_neg e, if_neg (fun h => e (of_decide_eq_true h.2))]
theorem lk_missD (D : Ct) (x : Str) : ∀ r : Ct, lk (missD r D) x = (lk r x).or (lk D x) := by
  induction D with
  | nil => intro r; show lk r x = (lk r x).or none; rw [Option.or_none]
  | cons p q ih =>
    intro r
    show lk (missD (miss1 r p) q) x = _
    rw [ih, lk_cons]
    unfold miss1
    split
    · rename_i h
      by_cases e : p.1 = x
      · subst e
        obtain ⟨v, e⟩ := Option.isSome_iff_exists.mp h
        rw [e]; rfl
      · rw [if_neg e]
    · rename_i h
      rw [lk_st]
      by_cases e : p.1 = x
      · subst e
        have : lk r p.1 = none := by cases q : lk r p.1 with | none => rfl | some v => rw [q] at h; exact absurd rfl h
        rw [if_pos rfl, if_pos rfl, this]; rfl
      · rw [if_neg e, if_neg (fun z => e z.symm)]
theorem lk_deed (m : Int) (D1 D2 : Ct) (x : Str) (l : List Str) : ∀ r : Ct, lk (l.foldl (deed1 m D1 D2) r) x = if x ∈ l ∧ 0 < deedV m D1 D2 x then some (deedV m D1 D2 x) else lk r x := by
  induction l with
  | nil => intro r; simp
  | cons a q ih =>
    intro r
    rw [List.foldl_cons, ih]
    unfold deed1
    by_cases hq : x ∈ q ∧ 0 < deedV m D1 D2 x
    · rw [if_pos hq, if_pos ⟨.tail _ hq.1, hq.2⟩]
    · rw [if_neg hq]
      by_cases ea : x = a
      · subst ea
        by_cases hv : 0 < deedV m D1 D2 x
        · rw [if_pos (decide_eq_true hv), lk_st, if_pos rfl, if_pos ⟨.head _, hv⟩]
        · rw [if_neg (by simpa using hv), if_neg (fun h => hv h.2)]
      · have hn : ¬ (x ∈ a :: q ∧ 0 < deedV m D1 D2 x) := fun h => by
          rcases List.mem_cons.mp h.1 with e | e
          · exact ea e
          · exact hq ⟨e, h.2⟩
        rw [if_neg hn]
        split
        · rw [lk_st, if_neg ea]
        · rfl

/-- all letters are a, b, c -/
def In (D : Ct) : Prop := ∀ x, (lk D x).isSome = true → x ∈ abc

theorem op_deed (k : Nat) (hk : k < 4) {D1 D2 E1 E2 : Ct} (s1 : ∀ x, lk D1 x = lk E1 x) (s2 : ∀ x, lk D2 x = lk E2 x) (i1 : In D1) (i2 : In D2) (x : Str) : lk (opD k D1 D2) x = lk (deedD (k : Int) E1 E2) x := by
  have hd : lk (deedD (k : Int) E1 E2) x = if x ∈ abc ∧ 0 < deedV (k : Int) E1 E2 x then some (deedV (k : Int) E1 E2 x) else none := lk_deed _ _ _ _ _ _
  have hv : deedV (k : Int) E1 E2 x = deedV (k : Int) D1 D2 x := by unfold deedV; rw [s1, s2]
  rw [hd, hv]
  have j1 := i1 x
  have j2 := i2 x
  rcases (by omega : k = 0 ∨ k = 1 ∨ k = 2 ∨ k = 3) with rfl | rfl | rfl | rfl
  · show lk (andD D1 D2) x = _
    unfold andD deedV
    rw [lk_map]
    simp only [mem_keys]
    cases h1 : lk D1 x <;> cases h2 : lk D2 x <;> simp_all
  · show lk (orD D1 D2) x = _
    unfold orD deedV
    rw [lk_posD, lk_missD, lk_mapD]
    cases h1 : lk D1 x <;> cases h2 : lk D2 x <;> simp_all <;> (try omega)
    rename_i v
    by_cases hv0 : 0 < v
    · rw [show Max.max 0 v = v by omega]
    · rw [if_neg hv0, if_neg (by omega)]
  · show lk (addD D1 D2) x = _
    unfold addD deedV
    rw [lk_posD, lk_missD, lk_mapD]
    cases h1 : lk D1 x <;> cases h2 : lk D2 x <;> simp_all
  · show lk (subD D1 D2) x = _
    unfold subD deedV
    rw [lk_posD, lk_mapD]
    cases h1 : lk D1 x <;> cases h2 : lk D2 x <;> simp_all

theorem in_op (k : Nat) (hk : k < 4) {D1 D2 : Ct} (i1 : In D1) (i2 : In D2) : In (opD k D1 D2) := by
  intro x hx
  rw [op_deed k hk (fun _ => rfl) (fun _ => rfl) i1 i2] at hx
  unfold deedD at hx
  rw [lk_deed] at hx
  split at hx
  · rename_i h; exact h.1
  · cases hx

theorem nodup_le : ∀ (l1 l2 : List Str), l1.Nodup → (∀ x ∈ l1, x ∈ l2) → l1.length ≤ l2.length := by
  intro l1
  induction l1 with
  | nil => intro l2 _ _; exact Nat.zero_le _
  | cons a r ih =>
    intro l2 hn hs
    rw [List.nodup_cons] at hn
    have ha := hs a (.head _)
    have h := ih (l2.erase a) hn.2 fun x hx => (List.mem_erase_of_ne (show x ≠ a from fun e => hn.1 (by rw [← e]; exact hx))).mpr (hs x (.tail _ hx))
    rw [List.length_erase_of_mem ha] at h
    have : 0 < l2.length := List.length_pos_of_mem ha
    rw [List.length_cons]; omega
theorem same_of {D E : Ct} (n1 : (D.map (·.1)).Nodup) (n2 : (E.map (·.1)).Nodup) (h : ∀ x, lk D x = lk E x) : Same D E := by
  refine ⟨?_, h⟩
  have a1 := nodup_le _ _ n1 (fun x hx => mem_keys.mpr (h x ▸ mem_keys.mp hx) : ∀ x ∈ D.map (·.1), x ∈ E.map (·.1))
  have a2 := nodup_le _ _ n2 (fun x hx => mem_keys.mpr ((h x).symm ▸ mem_keys.mp hx) : ∀ x ∈ E.map (·.1), x ∈ D.map (·.1))
  rw [List.length_map, List.length_map] at a1 a2
  exact Nat.le_antisymm a1 a2
theorem in_len {D : Ct} (n1 : (D.map (·.1)).Nodup) (i : In D) : D.length ≤ 3 := by
  have a1 := nodup_le _ abc n1 (fun x hx => i x (mem_keys.mp hx))
  rw [List.length_map, abc_is] at a1
  exact a1
end Mine
end

section
open PySem PySem.W PyProof.Rows PySem.Calls Builtin
set_option linter.unusedVariables false
namespace Mine
set_option maxRecDepth 100000
set_option maxHeartbeats 4000000

noncomputable def lawSc (w : World) : Scope := match (KH w).lookup 95 with | some ⟨_, _, .func fd, _⟩ => fd.scope | _ => default
noncomputable def lawBd (w : World) : List Stmt := match (KH w).lookup 95 with | some ⟨_, _, .func fd, _⟩ => (match fd.body with | .stmts b => b | _ => []) | _ => []
noncomputable def lawEnv (w : World) (L a : Addr) (cd : Value) : Env := envOfC "law" (lawSc w) L a cd

structure LC (L : Nat) (h : Heap) (m : Str → Option Value) (cm : Nat → Option Value) : Prop where
  ns : h.Ns L m
  cell : ∀ j, 1 ≤ j → j ≤ 6 → h.IsCell (L + j) (cm j)
/-- all but the locals and the cells stays -/
def Fx (L : Nat) (h h' : Heap) : Prop := ∀ b o, (@LT.lt Nat _ b L ∨ @LT.lt Nat _ (L + 6) b) → h.get? b = some o → h'.get? b = some o
theorem Fx.trans {L : Nat} {h h' h'' : Heap} (a : Fx L h h') (b : Fx L h' h'') : Fx L h h'' := fun x o p e => b x o p (a x o p e)
theorem Fx.of {L : Nat} {h h' : Heap} (a : Up h h') : Fx L h h' := fun x o p e => a x o e
theorem LC.keeps {L : Nat} {h h' : Heap} {m cm} (c : LC L h m cm) (k : Up h h') : LC L h' m cm := ⟨c.ns.keeps k, fun j a b => let ⟨o, ho, r⟩ := c.cell j a b; ⟨o, k _ _ ho, r⟩⟩

theorem lne {L j : Nat} (h : 1 ≤ j) : ¬ @Eq Nat (L + j) L := by omega
theorem jne {L i j : Nat} (h : ¬ i = j) : ¬ @Eq Nat (L + i) (L + j) := by omega
theorem fne {L b : Nat} (j : Nat) (h : j ≤ 6) (hb : @LT.lt Nat _ b L ∨ @LT.lt Nat _ (L + 6) b) : ¬ @Eq Nat b (L + j) := by omega
section
variable {w : World} {A : Around} {E : Value → Shared → Prop} {s : Shared} {env : Env} {L : Nat} {m : Str → Option Value} {cm : Nat → Option Value} {h : Heap} {x : Str} {v : Value}
theorem LC.lt (c : LC L h m cm) (j : Nat) (h2 : j ≤ 6) : @LT.lt Nat _ (L + j) h.objs.size := by
  have h6 : @LT.lt Nat _ (L + 6) h.objs.size := by obtain ⟨o, ho, _⟩ := c.cell 6 (by decide) (by decide); exact Heap.lt_size ho
  omega
theorem st_local {Q : Unit → Shared → Prop} (kF : env.scope.kind = .function) (hL : env.locals = L) (kx : env.kindOf x = some .local) (c : LC L s.heap m cm)
    (hQ : ∀ h' tk, LC L h' (fun z => if z = x then some v else m z) cm → Fx L s.heap h' → Q () { s with heap := h', toks := tk }) : wpAny (model pg w) A (storeName env x v) Q E s := by
  subst hL
  refine wpAny_storeName_local kx c.ns (fun h₂ hn₂ hs₂ => ?_) (by rw [kF]; rfl)
  refine hQ h₂ _ ⟨hn₂, fun j h1 h2 => let ⟨o, ho, r⟩ := c.cell j h1 h2; ⟨o, (hs₂.2 _ (neA (lne h1))).trans ho, r⟩⟩ fun b o hb e => (hs₂.2 b (neA (fne 0 (by omega) hb))).trans e
theorem st_cell (j : Nat) (h1 : 1 ≤ j) (h2 : j ≤ 6) {Q : Unit → Shared → Prop} (kF : env.scope.kind = .function) (kx : env.kindOf x = some .cell) (hc : env.cells.lookup x = some (L + j)) (c : LC L s.heap m cm)
    (hQ : ∀ h' tk, LC L h' m (fun i => if i = j then some v else cm i) → Fx L s.heap h' → Q () { s with heap := h', toks := tk }) : wpAny (model pg w) A (storeName env x v) Q E s := by
  refine wpAny_storeName_cell kF kx hc (c.cell j h1 h2) (fun h₂ hn₂ hs₂ => ?_)
  refine hQ h₂ _ ⟨c.ns.sameBut hs₂ (Ne.symm (neA (lne h1))), fun i a b => ?_⟩ fun b o hb e => (hs₂.2 b (neA (fne j h2 hb))).trans e
  by_cases e : i = j
  · subst e; rw [if_pos rfl]; exact hn₂
  · rw [if_neg e]
    obtain ⟨o, ho, r⟩ := c.cell i a b
    exact ⟨o, (hs₂.2 _ (neA (jne e))).trans ho, r⟩
theorem nm_l (kF : env.scope.kind = .function) (hL : env.locals = L) (kx : env.kindOf x = some .local) (c : LC L h m cm) (hv : m x = some v) (hd : (x == ("__debug__" : Str)) = false := by decide) : Nm env h x v :=
  nm_local kF kx (hL ▸ c.ns) hv hd
theorem nm_c (j : Nat) (h1 : 1 ≤ j) (h2 : j ≤ 6) (kF : env.scope.kind = .function) (kx : env.kindOf x = some .cell) (hc : env.cells.lookup x = some (L + j)) (c : LC L h m cm) (hv : cm j = some v) (hd : (x == ("__debug__" : Str)) = false := by decide) : Nm env h x v :=
  nm_cell kF kx hc (hv ▸ c.cell j h1 h2) hd
end

/-! a list of ints -/
def IL (h : Heap) (a : Addr) (ns : List Int) : Prop := ∃ items : Array Value, h.IsList a items ∧ items.size = ns.length ∧ ∀ (i : Nat) v, items[i]? = some v → ∃ n t, ns[i]? = some n ∧ v = .int n t
theorem isList_at {h h' : Heap} {a : Addr} {its : Array Value} (x : h.IsList a its) (k : ∀ o, h.get? a = some o → h'.get? a = some o) : h'.IsList a its := let ⟨o, ho, r⟩ := x; ⟨o, k o ho, r⟩
theorem IL.at' {h h' : Heap} {a : Addr} {ns : List Int} (x : IL h a ns) (k : ∀ o, h.get? a = some o → h'.get? a = some o) : IL h' a ns := let ⟨its, l, r⟩ := x; ⟨its, isList_at l k, r⟩
theorem IL.lt {h : Heap} {a : Addr} {ns : List Int} (x : IL h a ns) : @LT.lt Nat _ a h.objs.size := let ⟨_, ⟨o, ho, _⟩, _⟩ := x; Heap.lt_size ho
theorem IL.get {h : Heap} {a : Addr} {ns : List Int} (x : IL h a ns) : ∃ items : Array Value, h.IsList a items ∧ items.size = ns.length ∧ ∀ (i : Nat) n, ns[i]? = some n → ∃ t, items[i]? = some (.int n t) := by
  obtain ⟨its, l, hs, hi⟩ := x
  refine ⟨its, l, hs, fun i n e => ?_⟩
  have hlt : i < its.size := by rw [hs]; exact (List.getElem?_eq_some_iff.mp e).1
  obtain ⟨n', t, e', hv⟩ := hi i its[i] (Array.getElem?_eq_getElem hlt)
  rw [e] at e'; cases e'
  exact ⟨t, by rw [Array.getElem?_eq_getElem hlt, hv]⟩

section
variable {w : World} {env : Env} {h h' : Heap} {e l r : Expr} {P P' : Value → Prop} {b : Bool} {n : Str} {v : Value} {pos : Pos}
theorem pe_if {t x y : Expr} {b : Bool} (ht : PB w env h t b) (hx : b = true → PE w env h x P) (hy : b = false → PE w env h y P) : PE w env h (.IfExp t x y pos) P := fun A E Q s rm up q => by
  refine wpAny_IfExp (ht A E _ s rm up fun s' ks => ?_)
  have up' : Up h s'.heap := fun b o e => keeps_up ks _ _ (up b o e)
  cases b with
  | true => exact hx rfl A E Q s' rm up' fun v s'' ks' p => q v s'' (keeps_trans ks ks') p
  | false => exact hy rfl A E Q s' rm up' fun v s'' ks' p => q v s'' (keeps_trans ks ks') p
theorem pe_fdiv {i j : Int} (hj : j ≠ 0) (hjs : j.natAbs < 1073741824) (x : PE w env h l (IntV i)) (y : PE w env h r (IntV j)) : PE w env h (.BinOp l .FloorDiv r pos) (IntV (i.fdiv j)) := fun A E Q s rm up q => by
  refine wpAny_BinOp (x A _ _ s rm up fun v s' ks ⟨t, ht⟩ => ?_)
  subst ht
  refine y A _ _ s' rm (fun b o e => keeps_up ks _ _ (up _ _ e)) fun v s'' ks' ⟨u, hu⟩ => ?_
  subst hu
  exact floordiv_int hj (q _ _ (keeps_trans ks (keeps_trans ks' (keeps_tok _ _))) ⟨_, rfl⟩) (.inl (PyProof.noPylong_small hjs))
theorem pe_ne0 {i j : Int} (x : PE w env h l (IntV i)) (y : PE w env h r (IntV j)) (hm : behindInMarks .NotEq r = false := by with_unfolding_all rfl) : PB w env h (.Compare l [.NotEq] [r] pos) (i != j) := fun A E Q s rm up q => by
  refine wpAny_isTrue_Compare1 (x A _ _ s rm up fun v s' ks ⟨t, ht⟩ => ?_) hm
  subst ht
  refine y A _ _ s' rm (fun b o e => keeps_up ks _ _ (up _ _ e)) fun v s'' ks' ⟨u, hu⟩ => ?_
  subst hu
  exact ne_int (wpAny_truthy_bool (q _ (keeps_trans ks ks')))
theorem pe_lenL {d fn : Str} {p1 fp : Pos} {a : Addr} {items : Array Value} (hf : Nm env h fn (.builtin "len")) (nd : Nm env h d (.ref a)) (t : h.IsList a items) (hlen : items.size ≤ 100000)
    (ha : starEach [.Name d p1] env = [(false, eval (.Name d p1) env)] := by rfl) : PE w env h (.Call (.Name fn fp) [.Name d p1] [] pos) (IntV items.size) := fun A E Q s rm up q => by
  refine call1 ((hf _ _).keeps up) ((nd _ _) A _ E s up ?_) ha
  exact call_len_list (isList_at t (up a)) (by omega) (q _ _ ⟨_, _, rfl, fun _ _ e => e⟩ ⟨_, rfl⟩)
/-- an item of a list, by any of the three kinds of index -/
inductive Idx : Expr → Prop
  | name (x p) : Idx (.Name x p)
  | const (c k p) : Idx (.Constant c k p)
  | bin (l op r p) : Idx (.BinOp l op r p)
theorem sub_late {M : Model} {A : Around} {E : Value → Shared → Prop} {s : Shared} {value sl : Expr} {pos : Pos} {Q : Value → Shared → Prop} (i : Idx sl)
    (h : wpAny M A (eval value env) (fun o s₁ => wpAny M A (eval sl env) (fun i s₂ => SubscriptOn M A o i Q E s₂) E s₁) E s)
    (ht : ∀ o r, letTemporaryGo value o r = pure () := by intro _ _; rfl) : wpAny M A (eval (.Subscript value sl pos) env) Q E s := by
  cases i with
  | name => exact wpAny_Subscript_Name_late h ht
  | const => exact wpAny_Subscript_Constant_late h ht
  | bin => exact wpAny_Subscript_BinOp_late h ht
theorem pe_at {d : Str} {sl : Expr} {p1 : Pos} {a : Addr} {items : Array Value} {k : Nat} (hi : Idx sl) (nd : Nm env h d (.ref a)) (t : h.IsList a items) (hk : k < 100000) (x : PE w env h sl (IntV k)) (hv : ∃ v, items[k]? = some v ∧ P v) :
    PE w env h (.Subscript (.Name d p1) sl pos) P := fun A E Q s rm up q => by
  refine sub_late hi ((nd _ _) A _ E s up (x A _ _ s rm up fun v s' ks ⟨t', ht'⟩ => ?_))
  subst ht'
  obtain ⟨v, hv, p⟩ := hv
  have hl := isList_at t fun o e => keeps_up ks _ _ (up a o e)
  exact ⟨"list", _, list_getitem_lookup, hl.typeIs, wpAny_getItem_list hl (by omega) (by omega) (by simpa using hv) (q v s' ks p)⟩
theorem sub_str {M : Model} {A : Around} {E : Value → Shared → Prop} {s : Shared} {sl : Expr} {pos p1 : Pos} {x : Str} {c : Nat} {Q : Value → Shared → Prop} (i : Idx sl)
    (h : ∀ tk, wpAny M A (eval sl env) (fun i s₂ => wpAny M A (getItem (.str x tk) i) Q E s₂) E { s with toks := s.toks + 1 }) : wpAny M A (eval (.Subscript (.Constant (.str x) c p1) sl pos) env) Q E s := by
  rw [arm_eval_Subscript]
  refine wpAny_bind (wpAny_Constant_str (wpAny_bind (wpAny_holding (wpAny_mono (h s.toks) (fun iv s₂ h₂ => wpAny_bind (wpAny_standAt ?_)) fun _ _ x => x))))
  refine wpAny_bind ?_
  unfold getitemInPython
  refine wpAny_bind (wpAny_specialOf (typeIs_str _ _ _) slot_str_getitem.lookup ?_)
  refine wpAny_pure ?_
  have fin : wpAny M A (operate [.str x s.toks, iv] (getItem (.str x s.toks) iv)) (fun r s₃ => wpAny M A (letTemporaryGo (.Constant (.str x) c p1) (.str x s.toks) r >>= fun _ => pure r) Q E s₃) E s₂ :=
    wpAny_operating (wpAny_mono h₂ (fun r s₃ h₃ => wpAny_bind (wpAny_pure (wpAny_pure h₃))) fun _ _ x => x)
  cases i <;> exact wpAny_bind fin
theorem pe_abc {sl : Expr} {p1 : Pos} {c : Nat} {k : Nat} (hi : Idx sl) (hk : k < 3) (x : PE w env h sl (IntV k)) :
    PE w env h (.Subscript (.Constant (.str "abc") c p1) sl pos) (fun v => ∃ t, v = .str (abc.getD k "a") t) := fun A E Q s rm up q => by
  refine sub_str hi fun tk => (x A _ _ _ rm up fun v s' ks ⟨t', ht'⟩ => ?_)
  subst ht'
  refine getItem_str (c := 97 + k) (t := tk) (u := t') ?_ ?_ (q _ _ (keeps_trans (keeps_tok s _) (keeps_trans ks (keeps_tok _ _))) ⟨s'.toks, ?_⟩)
  · rw [decide_eq_false (by omega), decide_eq_false (by omega)]; rfl
  · rcases (by omega : k = 0 ∨ k = 1 ∨ k = 2) with rfl | rfl | rfl <;> decide
  · rcases (by omega : k = 0 ∨ k = 1 ∨ k = 2) with rfl | rfl | rfl <;> rfl
end

section
variable {w : World} {A : Around} {E : Value → Shared → Prop} {s : Shared} {env : Env}
theorem e_range {n : Nat} {c : Nat} {p1 p2 p3 : Pos} {Q : Value → Shared → Prop} (hh : A.handled = none) (nr : Nm env s.heap "range" (.type "range")) (hn : n ≤ 100)
    (hQ : ∀ I h' tk St, Up s.heap h' → @LT.lt Nat _ I h'.objs.size → @LE.le Nat _ s.heap.objs.size I → Walks pg w A I [I] [I] n (fun i v => ∃ t, v = .int (i : Int) t) St → St 0 h' → Q (.ref I) { s with heap := h', toks := tk })
    (ha : starEach [.Constant (.int (n : Int)) c p2] env = [(false, eval (.Constant (.int (n : Int)) c p2) env)] := by rfl) :
    wpAny (model pg w) A (eval (.Call (.Name "range" p1) [.Constant (.int (n : Int)) c p2] [] p3) env) (fun xv s₁ => wpAny (model pg w) A (pyIter xv) Q E s₁) E s := by
  refine wpAny_Call_Name_kw ((nr _ _) _ _ _ _ (fun _ _ e => e) ?_)
  rw [ha]
  refine PyProof.Rows.callWith_type rfl (evalArgs_plain (spliced_cons (wpAny_Constant_int (k := c) (pos := p2) (spliced_nil ?_))))
  refine call_range_1 ?_
  have hsz : Builtin.Range.rangeSize 0 (n : Int) 1 = (n : Int) := by rw [rangeSize_one]; split <;> omega
  refine wpAny_pyIter_range (IsRange.new _ _ _ _ _ _ _) (small_one (by omega) (by omega) (by omega) (by omega)) ?_
  refine hQ _ _ _ _ (fun b o e => Heap.get?_push_of_some _ (Heap.get?_push_of_some _ e)) ?_ ?_ (walks_mono_P (Walks.range hh _ 0 1 n) rfl fun i v _ ⟨t, ht⟩ => ⟨t, by rw [ht]; simp⟩) ?_
  · simp only [Heap.size_push]; exact Nat.lt_succ_self _
  · rw [Heap.size_push]; exact Nat.le_succ _
  · rw [hsz]
    have : (0 : Int) + ((0 : Nat) : Int) * 1 = 0 := by decide
    rw [this, show (n : Int) - ((0 : Nat) : Int) = n by omega]
    exact Heap.get?_push_size _ rfl
end
end Mine
end

section
open PySem PySem.W PyProof.Rows PySem.Calls Builtin
set_option linter.unusedVariables false
namespace Mine
set_option maxRecDepth 100000
set_option maxHeartbeats 4000000

/-! a list whose items are all of a kind -/
def LL (h : Heap) (a : Addr) (n : Nat) (P : Nat → Value → Prop) : Prop := ∃ items : Array Value, h.IsList a items ∧ items.size = n ∧ ∀ (i : Nat) v, items[i]? = some v → P i v
abbrev AnyInt (_ : Nat) (v : Value) : Prop := ∃ z, IntV z v
theorem LL.at' {h h' : Heap} {a : Addr} {n : Nat} {P : Nat → Value → Prop} (x : LL h a n P) (k : ∀ o, h.get? a = some o → h'.get? a = some o) : LL h' a n P := let ⟨its, l, r⟩ := x; ⟨its, isList_at l k, r⟩
theorem LL.keeps {h h' : Heap} {a : Addr} {n : Nat} {P : Nat → Value → Prop} (x : LL h a n P) (k : Up h h') : LL h' a n P := x.at' (k a)
theorem LL.lt {h : Heap} {a : Addr} {n : Nat} {P : Nat → Value → Prop} (x : LL h a n P) : @LT.lt Nat _ a h.objs.size := let ⟨_, ⟨o, ho, _⟩, _⟩ := x; Heap.lt_size ho
theorem LL.mono {h : Heap} {a : Addr} {n : Nat} {P P' : Nat → Value → Prop} (x : LL h a n P) (k : ∀ i v, P i v → P' i v) : LL h a n P' := let ⟨its, l, r, p⟩ := x; ⟨its, l, r, fun i v e => k i v (p i v e)⟩

theorem paired_at {F : Value → Value → Prop} : ∀ {l₁ l₂ : List Value}, Paired F l₁ l₂ → ∀ (i : Nat) b, l₂[i]? = some b → ∃ a, l₁[i]? = some a ∧ F a b
  | _, _, .nil, i, b, h => by simp at h
  | _, _, .cons f t, 0, b, h => by simp at h; subst h; exact ⟨_, rfl, f⟩
  | _, _, .cons f t, i + 1, b, h => by
    rw [List.getElem?_cons_succ] at h
    obtain ⟨a, e, q⟩ := paired_at t i b h
    exact ⟨a, by rw [List.getElem?_cons_succ]; exact e, q⟩
theorem filter_tt (l : List Value) : l.filter (fun _ => true) = l := by induction l with | nil => rfl | cons a r ih => rw [List.filter_cons, if_pos rfl, ih]

section
variable {w : World} {A : Around} {E : Value → Shared → Prop} {s : Shared} {env : Env} {L : Nat} {m : Str → Option Value} {cm : Nat → Option Value}
/-- what an iterable gives: a fresh iterator; of what it leans on nothing was there before but `own` -/
def ItE (w : World) (A : Around) (E : Value → Shared → Prop) (env : Env) (s : Shared) (iter : Expr) (own : List Addr) (N : Nat → Prop) (P : Nat → Value → Prop) : Prop := ∀ Q : Value → Shared → Prop,
  (∀ n I fp h' tk St, N n → n ≤ 1000 → Up s.heap h' → s.heap.get? I = none → (∀ b ∈ fp, @LT.lt Nat _ b h'.objs.size) → (∀ b ∈ fp, s.heap.get? b = none ∨ b ∈ own) → Walks pg w A I fp [I] n P St → St 0 h' → Q (.ref I) { s with heap := h', toks := tk }) →
  wpAny (model pg w) A (eval iter env) (fun xv s₁ => wpAny (model pg w) A (pyIter xv) Q E s₁) E s
theorem none_ge {h h' : Heap} {a : Addr} (k : Up h h') (e : @LE.le Nat _ h'.objs.size a) : h.get? a = none := by
  cases q : h.get? a with
  | none => rfl
  | some o => exact absurd (Heap.lt_size (k _ _ q)) (Nat.not_lt.mpr e)

theorem it_range {n : Nat} {c : Nat} {p1 p2 p3 : Pos} (hh : A.handled = none) (nr : Nm env s.heap "range" (.type "range")) (hn : n ≤ 100)
    (ha : starEach [.Constant (.int (n : Int)) c p2] env = [(false, eval (.Constant (.int (n : Int)) c p2) env)] := by rfl) : ItE w A E env s (.Call (.Name "range" p1) [.Constant (.int (n : Int)) c p2] [] p3) [] (· = n) (fun i v => ∃ t, v = .int (i : Int) t) := fun Q hQ =>
  e_range hh nr hn (fun I h' tk St up lt le Wk st => hQ n I [I] h' tk St rfl (by omega) up (none_ge (fun _ _ e => e) le) (fun b hb => by rcases List.mem_cons.mp hb with rfl | hb; exact lt; cases hb) (fun b hb => by rcases List.mem_cons.mp hb with rfl | hb; exact .inl (none_ge (fun _ _ e => e) le); cases hb) Wk st) ha

theorem it_core {l : Addr} {its : Array Value} {n : Nat} {P : Nat → Value → Prop} {h₂ : Heap} {t₂ : Nat} {own : List Addr} {N : Nat → Prop} {Q : Value → Shared → Prop} (hh : A.handled = none) (k : Up s.heap h₂) (hl : h₂.IsList l its) (hsz : its.size = n) (hn : N n) (hn' : n ≤ 1000) (hp : ∀ (i : Nat) v, its[i]? = some v → P i v) (hown : s.heap.get? l = none ∨ l ∈ own)
    (hQ : ∀ n I fp h' tk St, N n → n ≤ 1000 → Up s.heap h' → s.heap.get? I = none → (∀ b ∈ fp, @LT.lt Nat _ b h'.objs.size) → (∀ b ∈ fp, s.heap.get? b = none ∨ b ∈ own) → Walks pg w A I fp [I] n P St → St 0 h' → Q (.ref I) { s with heap := h', toks := tk }) :
    wpAny (model pg w) A (pyIter (.ref l)) Q E { s with heap := h₂, toks := t₂ } := by
  have hlt : @LT.lt Nat _ l h₂.objs.size := let ⟨o, ho, r⟩ := hl; Heap.lt_size ho
  have hI : s.heap.get? h₂.objs.size = none := none_ge k (Nat.le_refl _)
  refine wpAny_pyIter_list hl (hQ n _ _ _ _ _ hn hn' (fun b o e => Heap.get?_push_of_some _ (k b o e)) hI ?_ ?_ (walks_mono_P (Walks.list hh _ l (neA (Nat.ne_of_lt hlt)) its) hsz fun i v _ p => hp i v p) ⟨⟨_, Heap.get?_push_size _ rfl, rfl, rfl⟩, hl.push _⟩)
  · intro b hb
    rw [Heap.size_push]
    rcases List.mem_cons.mp hb with rfl | hb
    · exact Nat.lt_succ_self _
    · rcases List.mem_cons.mp hb with rfl | hb
      · exact Nat.lt_succ_of_lt hlt
      · cases hb
  · intro b hb
    rcases List.mem_cons.mp hb with rfl | hb
    · exact .inl hI
    · rcases List.mem_cons.mp hb with rfl | hb
      · exact hown
      · cases hb

theorem it_list {d : Str} {p : Pos} {l : Addr} {n : Nat} {P : Nat → Value → Prop} (hh : A.handled = none) (nd : Nm env s.heap d (.ref l)) (x : LL s.heap l n P) (hn : n ≤ 1000) : ItE w A E env s (.Name d p) [l] (· = n) P := fun Q hQ => by
  obtain ⟨its, hl, hsz, hp⟩ := x
  exact (nd _ _) _ _ _ _ (fun _ _ e => e) (it_core (s := s) (t₂ := s.toks) (own := [l]) (N := (· = n)) hh (fun _ _ e => e) hl hsz rfl hn hp (.inr (.head _)) hQ)

theorem slice_mem {items : Array Value} {lo hi : Option Int} {v : Value} {i : Nat} (h : (slicePick items lo hi none)[i]? = some v) : ∃ j : Nat, items[j]? = some v := by
  unfold slicePick at h
  have hm := Array.mem_of_getElem? h
  rw [List.mem_toArray] at hm
  obtain ⟨j, _, e⟩ := List.mem_filterMap.mp hm
  exact ⟨j, e⟩
theorem slice_size {items : Array Value} {lo hi : Option Int} : (slicePick items lo hi none).size ≤ items.size := slicePick_size_le items lo hi none

/-- a slice of a list of ints, gone through -/
theorem it_slice {d : Str} {p p2 p3 : Pos} {lower upper : Option Expr} {l : Addr} {n : Nat} {lo hi : Option Int} (hh : A.handled = none) (nd : Nm env s.heap d (.ref l)) (x : LL s.heap l n AnyInt) (hn : n ≤ 1000)
    (hlo : ∀ s' Q, Keeps s s' → (∀ v s'', Keeps s' s'' → IsPart v lo → Q v s'') → wpAny (model pg w) A (evalPart lower env) Q E s')
    (hhi : ∀ s' Q, Keeps s s' → (∀ v s'', Keeps s' s'' → IsPart v hi → Q v s'') → wpAny (model pg w) A (evalPart upper env) Q E s') :
    ItE w A E env s (.Subscript (.Name d p) (.Slice lower upper none p2) p3) [] (fun _ => True) AnyInt := by
  intro Q hQ
  obtain ⟨its, hl, hn', hp⟩ := x
  refine wpAny_Subscript_list_slice ((nd _ _) _ _ _ _ (fun _ _ e => e) (hlo s _ (keeps_refl s) fun vl s₁ k₁ pl => hhi s₁ _ k₁ fun vu s₂ k₂ pu => ?_))
  obtain ⟨h₂, t₂, rfl, k⟩ := keeps_trans k₁ k₂
  refine ⟨l, its, lo, hi, rfl, isList_at hl (k l), by rw [hn', sizeLine_eq]; omega, pl, pu, ?_⟩
  have hnew : ((h₂.push { cls := .type "slice", data := .fields #[vl, vu, .none] }).push { cls := .type "list", data := .seq (slicePick its lo hi none) }).IsList (h₂.objs.size + 1) (slicePick its lo hi none) := by
    have := Heap.size_push h₂ { cls := .type "slice", data := .fields #[vl, vu, .none] }
    rw [← this]; exact ⟨_, Heap.get?_push_size _ rfl, rfl, _, rfl⟩
  refine it_core (s := s) (n := (slicePick its lo hi none).size) hh (fun b o e => Heap.get?_push_of_some _ (Heap.get?_push_of_some _ (k b o e))) hnew rfl trivial (Nat.le_trans slice_size (by omega)) ?_ (.inl (none_ge k (Nat.le_succ _))) hQ
  intro i v e
  obtain ⟨j, e'⟩ := slice_mem e
  exact hp j v e'

theorem part_int {z : Int} {c : Nat} {p : Pos} {s' : Shared} {Q : Value → Shared → Prop} (q : ∀ v s'', Keeps s' s'' → IsPart v (some z) → Q v s'') : wpAny (model pg w) A (evalPart (some (.Constant (.int z) c p)) env) Q E s' :=
  evalPart_some_step (wpAny_Constant_int (q _ _ (keeps_tok _ _) (.int _ _)))
theorem part_none {s' : Shared} {Q : Value → Shared → Prop} (q : ∀ v s'', Keeps s' s'' → IsPart v none → Q v s'') : wpAny (model pg w) A (evalPart none env) Q E s' :=
  evalPart_none_step (q _ _ (keeps_refl _) .none)

/-- `y = [elt for x in iter]`, y a local -/
theorem as_lcomp {elt iter : Expr} {x y : Str} {px py : Pos} {scope : Scope} {cl : List (Str × Addr)} {pos spos : Pos} {own : List Addr} {N : Nat → Prop} {P : Nat → Value → Prop} {Q : Flow → Shared → Prop} (F : Value → Value → Prop)
    (hL : env.locals = L) (c : LC L s.heap m cm) (it : ItE w A E env s iter own N P)
    (hsw : swapsWith (.ListComp elt [⟨.Name x px, iter, [], 0⟩] scope pos) (some (.Name y py)) spos.line env = pure true)
    (hclos : closureFor scope env = pure cl) (hcell : ∀ z ∈ scope.names, z.2 ≠ .cell) (hkind : scope.kind = .function)
    (hnames : ∀ z ∈ scope.names, z.2 = .local → scope.names.lookup z.1 = some .local) (hx : scope.names.lookup x = some .local)
    (hy : env.kindOf y = some .local) (hp : (env.scope.kind == .class || (env.scope.kind == .module && env.locals != env.globals)) = false)
    (helt : ∀ C i v s₃ m₃ E', P i v → s₃.heap.Ns C m₃ → m₃ x = some v → Up s.heap s₃.heap → wpAny (model pg w) A (eval elt (compEnvC scope cl C env)) (fun y s₄ => F v y ∧ Keeps s₃ s₄) E' s₃)
    (hQ : ∀ n D h' tk, N n → n ≤ 1000 → LC L h' (fun z => if z = y then some (.ref D) else m z) cm → Fx L s.heap h' → s.heap.get? D = none → LL h' D n (fun i b => ∃ a, P i a ∧ F a b) → Q .next { s with heap := h', toks := tk })
    (hs : ∀ x, foldedSetIterable iter env x = pure x := by intro _; rfl) :
    wpAny (model pg w) A (exec (.Assign [.Name y py] (.ListComp elt [⟨.Name x px, iter, [], 0⟩] scope pos) spos) env) Q E s := by
  subst hL
  refine wpAny_Assign_ListComp_free (fun _ => true) F hsw hclos hcell hkind hnames hx hy hp (it _ fun n I fp h' tk St hN hn up hI hfp hown Wk hst => ?_) hs
  have liveI : ∀ b o, s.heap.get? b = some o → b ∉ [I] := fun b o e => nin1 (fun z => by rw [show b = I from z, hI] at e; cases e)
  refine ⟨I, fp, [I], n, P, St, m, rfl, Wk, by rw [sizeLine_eq]; omega, hst, hfp, ?_, c.ns.keeps up, ⟨?_, ?_⟩, ?_⟩
  · obtain ⟨o, es, ep, e, _⟩ := c.ns; exact liveI _ _ e
  · intro C i v s₃ m₃ E' hC hv hn hm hk htk
    rw [List.forIn_nil]
    exact wpAny_pure ⟨rfl, keeps_refl _⟩
  · intro C i v s₃ m₃ E' hC hv _ hn hm hk htk
    exact helt C i v s₃ m₃ E' hv hn hm fun b o e => hk b o (liveI b o e) (up b o e)
  · intro D h'' tk'' ys vs hD hl hpl hlen hP hF hn' hk
    have hlive : ∀ b o, b ≠ env.locals → s.heap.get? b = some o → h''.get? b = some o := fun b o hb e => hk b o hb (liveI b o e) (up b o e)
    refine hQ n D h'' tk'' hN hn ⟨hn', fun j h1 h2 => ?_⟩ (fun b o hb e => hlive b o (neA (fne 0 (by omega) hb)) e) (by cases q : s.heap.get? D with | none => rfl | some o => rw [up _ _ q] at hD; cases hD) ⟨ys, hl, ?_, ?_⟩
    · obtain ⟨o, ho, r⟩ := c.cell j h1 h2
      exact ⟨o, hlive _ _ (neA (lne h1)) ho, r⟩
    · rw [filter_tt] at hF
      have := hF.length
      rw [hlen] at this
      exact this.symm
    · intro i b hb
      rw [filter_tt] at hF
      obtain ⟨a, ha, hf⟩ := paired_at hF i b (by rw [Array.getElem?_toList]; exact hb)
      exact ⟨a, hP i a ha, hf⟩
end
end Mine
end

section
open PySem PySem.W PyProof.Rows PySem.Calls Builtin
set_option linter.unusedVariables false
namespace Mine
set_option maxRecDepth 100000
set_option maxHeartbeats 4000000

def Ob (L : Nat) (h h' : Heap) : Prop := ∀ b o, b ≠ (L : Addr) → h.get? b = some o → h'.get? b = some o
theorem Ob.fx {L : Nat} {h h' : Heap} (x : Ob L h h') : Fx L h h' := fun b o hb e => x b o (neA (fne 0 (by omega) hb)) e
theorem Ob.of {L : Nat} {h h' : Heap} (x : Up h h') : Ob L h h' := fun b o _ e => x b o e
theorem Ob.trans {L : Nat} {h h' h'' : Heap} (a : Ob L h h') (b : Ob L h' h'') : Ob L h h'' := fun x o p e => b x o p (a x o p e)
abbrev Out (L : Nat) (b : Addr) : Prop := @LT.lt Nat _ b L ∨ @LT.lt Nat _ (L + 6) b
theorem Out.ne {L : Nat} {b : Addr} (x : Out L b) (j : Nat) (h : j ≤ 6) : b ≠ (L + j : Nat) := neA (fne j h x)
theorem out_of {L : Nat} {h : Heap} {m cm} {b : Addr} (c : LC L h m cm) (e : h.get? b = none) : Out L b := by
  have h0 : ¬ @Eq Nat b L := fun z => by obtain ⟨o, es, ep, q, _⟩ := c.ns; rw [show b = L from z, q] at e; cases e
  have hj : ∀ j, 1 ≤ j → j ≤ 6 → ¬ @Eq Nat b (L + j) := fun j h1 h2 z => by obtain ⟨o, q, _⟩ := c.cell j h1 h2; rw [show b = (L + j : Nat) from z, q] at e; cases e
  have h1 := hj 1 (by decide) (by decide)
  have h2 := hj 2 (by decide) (by decide)
  have h3 := hj 3 (by decide) (by decide)
  have h4 := hj 4 (by decide) (by decide)
  have h5 := hj 5 (by decide) (by decide)
  have h6 := hj 6 (by decide) (by decide)
  show @LT.lt Nat _ b L ∨ @LT.lt Nat _ (L + 6) b
  omega
section
variable {w : World} {A : Around} {E : Value → Shared → Prop} {s : Shared} {env : Env} {L : Nat} {m : Str → Option Value} {cm : Nat → Option Value} {h : Heap} {x : Str} {v : Value}
theorem st_l {Q : Unit → Shared → Prop} (kF : env.scope.kind = .function) (hL : env.locals = L) (kx : env.kindOf x = some .local) (c : LC L s.heap m cm)
    (hQ : ∀ h' tk, LC L h' (fun z => if z = x then some v else m z) cm → Ob L s.heap h' → Q () { s with heap := h', toks := tk }) : wpAny (model pg w) A (storeName env x v) Q E s := by
  subst hL
  refine wpAny_storeName_local kx c.ns (fun h₂ hn₂ hs₂ => ?_) (by rw [kF]; rfl)
  refine hQ h₂ _ ⟨hn₂, fun j h1 h2 => let ⟨o, ho, r⟩ := c.cell j h1 h2; ⟨o, (hs₂.2 _ (neA (lne h1))).trans ho, r⟩⟩ fun b o hb e => (hs₂.2 b hb).trans e
/-- `x = e`, x a local, e without effects -/
theorem as_pe {e : Expr} {P : Value → Prop} {p1 p2 : Pos} {Q : Flow → Shared → Prop} (kF : env.scope.kind = .function) (hL : env.locals = L) (kx : env.kindOf x = some .local) (c : LC L s.heap m cm) (rm : Rm 20 A) (v : PE w env s.heap e P)
    (hQ : ∀ v h' tk, P v → LC L h' (fun z => if z = x then some v else m z) cm → Ob L s.heap h' → Q .next { s with heap := h', toks := tk })
    (hs : swapsWith e (some (.Name x p1)) p2.line env = pure false := by rfl) : wpAny (model pg w) A (exec (.Assign [.Name x p1] e p2) env) Q E s := by
  refine wpAny_Assign_Name (v A _ _ s rm (fun _ _ e => e) fun y s' ks p => ?_) hs
  obtain ⟨h₁, t₁, rfl, k₁⟩ := ks
  exact st_l (s := { s with heap := h₁, toks := t₁ }) kF hL kx (c.keeps k₁) fun h' tk c' f => hQ y h' tk p c' ((Ob.of k₁).trans f)
end
theorem abc_mem {k : Nat} (h : k < 3) : abc.getD k "a" ∈ abc := by
  rcases (by omega : k = 0 ∨ k = 1 ∨ k = 2) with rfl | rfl | rfl <;> decide
theorem in_st {D : Ct} {k : Str} {v : Int} (i : In D) (hk : k ∈ abc) : In (st D k v) := fun x hx => by
  rw [lk_st] at hx
  by_cases e : x = k
  · rw [e]; exact hk
  · rw [if_neg e] at hx; exact i x hx
theorem in_nil : In [] := fun x h => by cases h

theorem seg1 {w : World} {A : Around} {E : Value → Shared → Prop} {s : Shared} {env : Env} {L : Nat} {m : Str → Option Value} {cm : Nat → Option Value} {a : Addr} {cd : Value} {Q : Flow → Shared → Prop} {S : Addr} {n : Nat}
    (hE : lawEnv w L a cd = env) (rm : Rm 90 A) (W : Wd w s.heap) (hW : @LT.lt Nat _ 95 L) (c : LC L s.heap m cm) (h1 : cm 1 = some (.ref S)) (hS : LL s.heap S n AnyInt) (hSL : @LT.lt Nat _ S L) (hn : n ≤ 1000)
    (hQ : ∀ m' P N D h' tk, LC L h' m' (fun i => if i = 2 then some (.ref P) else cm i) → m' "numbers" = some (.ref N) → (∃ z t, m' "head" = some (.int z t)) → LL h' N 4 AnyInt → Out L N → Dc w h' P D → In D → Out L P → N ≠ P → Fx L s.heap h' →
      wpAny (model pg w) A (execs ((lawBd w).drop 4) env) Q E { s with heap := h', toks := tk }) :
    wpAny (model pg w) A (execs (lawBd w) env) Q E s := by
  have hL : env.locals = L := by rw [← hE]; rfl
  have kF : env.scope.kind = .function := by rw [← hE]; kernel_rfl
  unfold lawBd at hQ ⊢
  rw [show (KH w).lookup 95 = some _ from rfl] at hQ ⊢
  dsimp only at hQ ⊢
  have hnr : Nm env s.heap "range" (.type "range") := nm_builtin W kF (by rw [← hE]; kernel_rfl) (by rw [← hE]; kernel_rfl) (by rw [← hE]; kernel_rfl) (by kernel_rfl) (by boot_fast) (by decide)
  refine wpAny_execs_cons ?_
  refine as_lcomp (cl := [("script", L + 1)]) (fun v y => ∃ z, IntV z y) hL c (it_range (n := 4) rm.1 hnr (by decide)) (by rw [← hE]; kernel_rfl) (by rw [← hE]; kernel_rfl) (by decide) rfl (by decide) (by decide) (by rw [← hE]; kernel_rfl) (by rw [kF]; rfl) ?_ ?_
  · rintro C i v s₃ m₃ E' ⟨t, rfl⟩ hn₃ hm up
    generalize hCE : compEnvC _ _ C env = ce
    have a1 : Nm ce s₃.heap "script" (.ref S) := nm_cell (by rw [← hCE]; kernel_rfl) (by rw [← hCE, ← hE]; kernel_rfl) (by rw [← hCE]; kernel_rfl) (h1 ▸ (c.keeps up).cell 1 (by decide) (by decide))
    have a2 : Nm ce s₃.heap "k" (.int (i : Int) t) := nm_local (by rw [← hCE]; kernel_rfl) (by rw [← hCE, ← hE]; kernel_rfl) (m := m₃) (by rw [← hCE]; exact hn₃) hm
    have a3 : Nm ce s₃.heap "len" (.builtin "len") := nm_builtin (W.keeps up) (by rw [← hCE]; kernel_rfl) (by rw [← hCE, ← hE]; kernel_rfl) (by rw [← hCE, ← hE]; kernel_rfl) (by rw [← hCE, ← hE]; kernel_rfl) (by kernel_rfl) (by boot_fast) (by decide)
    obtain ⟨its, hl, hsz, hp⟩ := hS.keeps up
    refine pe_if (P := fun v => ∃ z, IntV z v) (pb_lt (pe_nint a2) (pe_lenL a3 a1 hl (by omega))) (fun hb => ?_) (fun _ => (pe_nint a2).mono fun v hv => ⟨_, hv⟩) _ _ _ _ (rm.le (by decide)) (fun _ _ e => e) fun v s' ks p => ⟨p, ks⟩
    have hlt : i < its.size := by have := of_decide_eq_true hb; omega
    exact pe_at (.name _ _) a1 hl (by omega) (pe_nint a2) ⟨its[i], Array.getElem?_eq_getElem hlt, hp i _ (Array.getElem?_eq_getElem hlt)⟩
  rintro n' N h₁ t₁ rfl - c₁ f₁ hN0 hN
  have oN := out_of c hN0
  replace hN : LL h₁ N 4 AnyInt := hN.mono fun i v ⟨_, _, q⟩ => q
  have q1 : (fun z : Str => if z = "numbers" then some (Value.ref N) else m z) "numbers" = some (.ref N) := by simp
  generalize (fun z : Str => if z = "numbers" then some (Value.ref N) else m z) = m₁ at c₁ q1
  have W₁ : Wd w h₁ := W.low fun b o hb e => f₁ b o (.inl (by omega)) e
  have nN : Nm env h₁ "numbers" (.ref N) := nm_l kF hL (by rw [← hE]; kernel_rfl) c₁ q1
  refine wpAny_execs_cons ?_
  obtain ⟨its, hl, hsz, hp⟩ := id hN
  refine as_pe (s := { s with heap := h₁, toks := t₁ }) kF hL (by rw [← hE]; kernel_rfl) c₁ (rm.le (by decide)) (pe_at (k := 0) (P := fun v => ∃ z, IntV z v) (.const _ _ _) nN hl (by decide) pe_int ⟨its[0]'(by omega), Array.getElem?_eq_getElem (by omega), hp 0 _ (Array.getElem?_eq_getElem (by omega))⟩) ?_
  rintro v h₂ t₂ ⟨z, t, rfl⟩ c₂ f₂
  have q2 : (fun y : Str => if y = "head" then some (Value.int z t) else m₁ y) "numbers" = some (.ref N) := mset q1
  have r2 : ∃ z' t', (fun y : Str => if y = "head" then some (Value.int z t) else m₁ y) "head" = some (.int z' t') := ⟨z, t, by simp⟩
  generalize (fun y : Str => if y = "head" then some (Value.int z t) else m₁ y) = m₂ at c₂ q2 r2
  refine wpAny_execs_cons (wpAny_Assign_Name (wpAny_Dict_empty ?_) (by rw [← hE]; kernel_rfl))
  refine st_cell (s := { s with heap := h₂.push { cls := .type "dict", data := .dict #[] }, toks := t₂ }) 2 (by decide) (by decide) kF (by rw [← hE]; kernel_rfl) (by rw [← hE]; kernel_rfl) (c₂.keeps fun b o e => Heap.get?_push_of_some _ e) fun h₃ t₃ c₃ f₃ => ?_
  obtain ⟨P, hP⟩ : ∃ P, P = h₂.objs.size := ⟨_, rfl⟩
  have hdn : Dc w (h₂.push { cls := .type "dict", data := .dict #[] }) P [] := by
    refine ⟨[], DL.of_dictOf ?_ ?_, FA.nil⟩
    · rw [hP]; have := c₂.lt 0 (by decide); exact Nat.lt_trans hW this
    · rw [hP]; exact Heap.DictOf.new h₂
  have oP : Out L P := by rw [hP]; exact .inr (c₂.lt 6 (by decide))
  have hP0 : s.heap.get? P = none := by
    cases q : s.heap.get? P with
    | none => rfl
    | some o =>
      have := f₂ P o (oP.ne 0 (by decide)) (f₁ P o oP q)
      exact absurd (Heap.lt_size this) (by rw [hP]; exact Nat.lt_irrefl _)
  have hNP : N ≠ P := by rw [hP]; exact neA (Nat.ne_of_lt (by have := (hN.at' fun o e => f₂ N o (oN.ne 0 (by decide)) e).lt; exact this))
  have hd₃ : Dc w h₃ P [] := hdn.low fun o e => f₃ P o oP e
  have hN₃ : LL h₃ N 4 AnyInt := hN.at' fun o e => f₃ N o oN (Heap.get?_push_of_some _ (f₂ N o (oN.ne 0 (by decide)) e))
  have F₃ : Fx L s.heap h₃ := fun b o hb e => f₃ b o hb (Heap.get?_push_of_some _ (f₂ b o (Out.ne hb 0 (by decide)) (f₁ b o hb e)))
  rw [← hP] at c₃
  generalize hc3 : (fun i => if i = 2 then some (Value.ref P) else cm i) = cm₃ at c₃
  have q3 : cm₃ 2 = some (.ref P) := by rw [← hc3]; simp
  clear hdn hN0 h1
  have W₃ : Wd w h₃ := W.low fun b o hb e => F₃ b o (.inl (by omega)) e
  have hnr₃ : Nm env h₃ "range" (.type "range") := nm_builtin W₃ kF (by rw [← hE]; kernel_rfl) (by rw [← hE]; kernel_rfl) (by rw [← hE]; kernel_rfl) (by kernel_rfl) (by boot_fast) (by decide)
  have kk : env.kindOf "k" = some .local := by rw [← hE]; kernel_rfl
  have kn : env.kindOf "numbers" = some .local := by rw [← hE]; kernel_rfl
  have kh : env.kindOf "head" = some .local := by rw [← hE]; kernel_rfl
  have kb : env.kindOf "number" = some .local := by rw [← hE]; kernel_rfl
  have kp : env.kindOf "plain" = some .cell := by rw [← hE]; kernel_rfl
  have cp : env.cells.lookup ("plain" : Str) = some (L + 2) := by rw [← hE]; kernel_rfl
  refine wpAny_execs_cons (wpAny_For ((it_range (s := { s with heap := h₃, toks := t₃ }) (n := 3) rm.1 hnr₃ (by decide)) _ fun n' I fp h₄ t₄ St hN' hn' up₄ hI hfp hown Wk hst => ?_) (by intro _; rfl))
  subst hN'
  have live : ∀ b o, h₃.get? b = some o → b ∉ [I] := fun b o e => nin1 (fun z => by rw [show b = I from z] at e; rw [show h₃.get? I = none from hI] at e; cases e)
  refine for_core (s := { s with heap := h₄, toks := t₄ }) (wr := [L, P]) Wk
    (fun i h => ∃ m D, LC L h m cm₃ ∧ m "numbers" = some (.ref N) ∧ (∃ z t, m "head" = some (.int z t)) ∧ LL h N 4 AnyInt ∧ Dc w h P D ∧ In D ∧ D.length ≤ i ∧ Fx L s.heap h) hst
    ⟨_, [], c₃.keeps up₄, q2, r2, hN₃.keeps up₄, hd₃.keeps up₄, in_nil, Nat.zero_le _, F₃.trans (.of up₄)⟩ ?_ ?_ ?_ ?_
  · intro b hb
    have hb0 : h₃.get? b = none := (hown b hb).elim id fun z => nomatch z
    refine nin2 (fun z => ?_) (fun z => ?_)
    · obtain ⟨o, es, ep, e, _⟩ := c₃.ns; rw [show b = L from z, e] at hb0; cases hb0
    · obtain ⟨kvs, ⟨ep, nm, es, e, _⟩, _⟩ := hd₃; rw [show b = P from z, e] at hb0; cases hb0
  · rintro i h h' ⟨m, D, c', a1, a2, a3, a4, a5, a6, a7⟩ hk
    have lL : (L : Addr) ∉ [I] := by obtain ⟨o, es, ep, e, _⟩ := c₃.ns; exact live _ _ e
    have lP : P ∉ [I] := by obtain ⟨kvs, ⟨ep, nm, es, e, _⟩, _⟩ := hd₃; exact live _ _ e
    have lN : N ∉ [I] := by obtain ⟨its, ⟨o, e, _⟩, _⟩ := hN₃; exact live _ _ e
    refine ⟨m, D, ⟨let ⟨o, es, ep, e, r⟩ := c'.ns; ⟨o, es, ep, hk _ _ lL e, r⟩, fun j h1 h2 => ?_⟩, a1, a2, a3.at' fun o e => hk _ o lN e, a4.low fun o e => hk _ o lP e, a5, a6, fun b o hb e => hk b o (live b o (F₃ b o hb e)) (a7 b o hb e)⟩
    obtain ⟨o, e, r⟩ := c'.cell j h1 h2
    obtain ⟨o', e', _⟩ := c₃.cell j h1 h2
    exact ⟨o, hk _ _ (live _ _ e') e, r⟩
  · rintro i v h tk' E'' hi ⟨t, rfl⟩ ⟨m, D, c', a1, a2, a3, a4, a5, a6, a7⟩ hk'
    refine wpAny_assign_Name (st_l (s := { s with heap := h, toks := tk' }) kF hL kk c' fun h₅ t₅ c₅ f₅ => ?_)
    have b1 : (fun z : Str => if z = "k" then some (Value.int (i : Int) t) else m z) "numbers" = some (.ref N) := mset a1
    have b2 : ∃ z' t', (fun z : Str => if z = "k" then some (Value.int (i : Int) t) else m z) "head" = some (.int z' t') := let ⟨z, t, e⟩ := a2; ⟨z, t, mset e⟩
    have b3 : (fun z : Str => if z = "k" then some (Value.int (i : Int) t) else m z) "k" = some (.int (i : Int) t) := by simp
    generalize (fun z : Str => if z = "k" then some (Value.int (i : Int) t) else m z) = m₅ at c₅ b1 b2 b3
    have hN₅ : LL h₅ N 4 AnyInt := a3.at' fun o e => f₅ N o (oN.ne 0 (by decide)) e
    have nN : Nm env h₅ "numbers" (.ref N) := nm_l kF hL kn c₅ b1
    have nK : Nm env h₅ "k" (.int (i : Int) t) := nm_l kF hL kk c₅ b3
    obtain ⟨its, hl, hsz, hp⟩ := id hN₅
    have hlt : i + 1 < its.size := by omega
    refine wpAny_execs_cons ?_
    refine as_pe (s := { s with heap := h₅, toks := t₅ }) kF hL kb c₅ (rm.le (by decide)) (pe_at (k := i + 1) (P := fun v => ∃ z, IntV z v) (.bin _ _ _ _) nN hl (by omega) ((pe_add (pe_nint nK) pe_int).mono fun v hv => by simpa using hv) ⟨its[i + 1], Array.getElem?_eq_getElem hlt, hp _ _ (Array.getElem?_eq_getElem hlt)⟩) ?_
    rintro v h₆ t₆ ⟨z, u, rfl⟩ c₆ f₆
    have d1 : (fun y : Str => if y = "number" then some (Value.int z u) else m₅ y) "numbers" = some (.ref N) := mset b1
    have d2 : ∃ z' t', (fun y : Str => if y = "number" then some (Value.int z u) else m₅ y) "head" = some (.int z' t') := let ⟨z, t, e⟩ := b2; ⟨z, t, mset e⟩
    have d3 : (fun y : Str => if y = "number" then some (Value.int z u) else m₅ y) "k" = some (.int (i : Int) t) := mset b3
    have d4 : (fun y : Str => if y = "number" then some (Value.int z u) else m₅ y) "number" = some (.int z u) := by simp
    generalize (fun y : Str => if y = "number" then some (Value.int z u) else m₅ y) = m₆ at c₆ d1 d2 d3 d4
    obtain ⟨zh, th, d2'⟩ := d2
    have hN₆ : LL h₆ N 4 AnyInt := hN₅.at' fun o e => f₆ N o (oN.ne 0 (by decide)) e
    have hP₆ : Dc w h₆ P D := a4.low fun o e => f₆ P o (oP.ne 0 (by decide)) (f₅ P o (oP.ne 0 (by decide)) e)
    have F₆ : Fx L s.heap h₆ := a7.trans (f₅.trans f₆).fx
    have nB : Nm env h₆ "number" (.int z u) := nm_l kF hL kb c₆ d4
    have nH : Nm env h₆ "head" (.int zh th) := nm_l kF hL kh c₆ d2'
    have nK : Nm env h₆ "k" (.int (i : Int) t) := nm_l kF hL kk c₆ d3
    have nP : Nm env h₆ "plain" (.ref P) := nm_c 2 (by decide) (by decide) kF kp cp c₆ q3
    have kall : ∀ b o, b ∉ [(L : Addr), P] → h.get? b = some o → h₆.get? b = some o := fun b o hb e => (f₅.trans f₆) b o (fun z => hb (by rw [z]; exact .head _)) e
    refine wpAny_execs_cons (wpAny_If ((pe_ne0 (pe_mod (by decide) (pe_nint nB) pe_int) pe_int) _ _ _ _ (rm.le (by decide)) (fun _ _ e => e) fun s' ks => ?_))
    obtain ⟨hb, tb, rfl, kb'⟩ := ks
    cases hb0 : (z.fmod 3 != 0) with
    | false =>
      rw [if_neg (by decide)]
      exact wpAny_execs_nil (wpAny_execs_nil ⟨rfl, hb, _, rfl, ⟨m₆, D, c₆.keeps kb', d1, ⟨zh, th, d2'⟩, hN₆.keeps kb', hP₆.keeps kb', a5, by omega, F₆.trans (.of kb')⟩, fun b o hb' e => kb' _ _ (kall b o hb' e)⟩)
    | true =>
      rw [if_pos rfl]
      refine wpAny_execs_cons (wpAny_Assign_Subscript ?_)
      refine pe_if (P := fun v => ∃ z, IntV z v) (h := h₆) (w := w) (pb_eq (pe_mod (by decide) (pe_nint nH) pe_int) pe_int) (fun _ => (pe_fdiv (by decide) (by decide) (pe_nint nB) pe_int).mono fun v hv => ⟨_, hv⟩)
        (fun _ => (pe_subt (pe_mod (by decide) (pe_fdiv (by decide) (by decide) (pe_nint nB) pe_int) pe_int) pe_int).mono fun v hv => ⟨_, hv⟩) _ _ _ _ (rm.le (by decide)) kb' fun v s' ks ⟨zz, tt, hv⟩ => ?_
      subst hv
      obtain ⟨h₇, t₇, rfl, k₇⟩ := ks
      refine (nP _ _) _ _ _ _ (fun b o e => k₇ b o (kb' b o e)) ?_
      refine pe_abc (h := h₆) (w := w) (.name _ _) hi (pe_nint nK) _ _ _ _ (rm.le (by decide)) (fun b o e => k₇ b o (kb' b o e)) fun v s' ks ⟨tl, hv⟩ => ?_
      subst hv
      obtain ⟨h₈, t₈, rfl, k₈⟩ := ks
      have up₈ : Up h₆ h₈ := fun b o e => k₈ b o (k₇ b o (kb' b o e))
      refine set_dc (s := { s with heap := h₈, toks := t₈ }) (hP₆.keeps up₈) (by omega) fun h₉ t₉ x₉ s₉ => ?_
      refine wpAny_execs_nil (wpAny_execs_nil ⟨rfl, h₉, _, rfl, ⟨m₆, _, ⟨(c₆.keeps up₈).ns.sameBut s₉ (Ne.symm (oP.ne 0 (by decide))), fun j h1 h2 => ?_⟩, d1, ⟨zh, th, d2'⟩, (hN₆.keeps up₈).at' fun o e => (s₉.2 _ hNP).trans e, x₉, in_st a5 (abc_mem hi), ?_, ?_⟩, ?_⟩)
      · obtain ⟨o, e, r⟩ := (c₆.keeps up₈).cell j h1 h2
        exact ⟨o, (s₉.2 _ (Ne.symm (oP.ne j h2))).trans e, r⟩
      · have := st_len D (abc.getD i "a") zz; omega
      · intro b o hb e
        refine (s₉.2 b fun z => ?_).trans (up₈ b o (F₆ b o hb e))
        rw [z, hP0] at e; cases e
      · exact fun b o hb' e => (s₉.2 b (fun z => hb' (by rw [z]; exact .tail _ (.head _)))).trans (up₈ _ _ (kall b o hb' e))
  · rintro h tk ⟨m, D, c', a1, a2, a3, a4, a5, a6, a7⟩ hk'
    exact hQ m P N D h tk (by rw [hc3]; exact c') a1 a2 a3 oN a4 a5 oP hNP a7
end Mine
end

section
open PySem PySem.W PyProof.Rows PySem.Calls Builtin
set_option linter.unusedVariables false
namespace Mine
set_option maxRecDepth 100000
set_option maxHeartbeats 4000000

def cntOf (ks : List Str) (k : Str) : Int := ((ks.filter fun x => decide (x = k)).length : Nat)
def cnt1 (ks : List Str) (r : Ct) (k : Str) : Ct := st r k (cntOf ks k)
theorem lk_cnt1 (ks : List Str) (x : Str) (l : List Str) : ∀ r : Ct, lk (l.foldl (cnt1 ks) r) x = if x ∈ l then some (cntOf ks x) else lk r x := by
  induction l with
  | nil => intro r; simp
  | cons a q ih =>
    intro r
    rw [List.foldl_cons, ih]
    by_cases hq : x ∈ q
    · rw [if_pos hq, if_pos (.tail _ hq)]
    · rw [if_neg hq]
      unfold cnt1
      rw [lk_st]
      by_cases ea : x = a
      · subst ea; rw [if_pos rfl, if_pos (.head _)]
      · rw [if_neg ea, if_neg (fun h => by rcases List.mem_cons.mp h with e | e; exact ea e; exact hq e)]
theorem lk_cntf (x : Str) (l : List Str) : ∀ r : Ct, lk (l.foldl inc r) x = if x ∈ l then some ((lk r x).getD 0 + cntOf l x) else lk r x := by
  induction l with
  | nil => intro r; simp
  | cons a q ih =>
    intro r
    rw [List.foldl_cons, ih]
    unfold inc
    rw [lk_st]
    by_cases ea : x = a
    · subst ea
      have e1 : cntOf (x :: q) x = cntOf q x + 1 := by
        unfold cntOf
        rw [List.filter_cons, if_pos (decide_eq_true rfl), List.length_cons]; rfl
      rw [if_pos rfl, if_pos (show x ∈ x :: q from .head _), e1]
      by_cases hq : x ∈ q
      · rw [if_pos hq]; show some _ = some _; congr 1; show (lk r x).getD 0 + 1 + cntOf q x = _; omega
      · have e0 : cntOf q x = 0 := by
          unfold cntOf
          rw [List.filter_eq_nil_iff.mpr (fun a ha => by intro h; exact hq (of_decide_eq_true h ▸ ha))]; rfl
        rw [if_neg hq, e0]; congr 1
    · have e1 : cntOf (a :: q) x = cntOf q x := by
        unfold cntOf
        rw [List.filter_cons, if_neg (by intro h; exact ea (of_decide_eq_true h).symm)]
      rw [if_neg ea, e1]
      by_cases hq : x ∈ q
      · rw [if_pos hq, if_pos (.tail _ hq)]
      · rw [if_neg hq, if_neg (fun h => by rcases List.mem_cons.mp h with e | e; exact ea e; exact hq e)]
theorem cnt_same (ks : List Str) (x : Str) : lk (ks.foldl (cnt1 ks) []) x = lk (cnt ks) x := by
  unfold cnt
  rw [lk_cnt1, lk_cntf]
  by_cases h : x ∈ ks
  · rw [if_pos h, if_pos h, lk_nil]; show some _ = some (0 + _); rw [Int.zero_add]
  · rw [if_neg h, if_neg h]

theorem join_fold (l : List Str) (h : ∀ k ∈ l, k ∈ abc) : ∀ acc : Array Nat, (l.foldl (fun acc p => acc ++ (#[] : Array Nat) ++ p.cps) acc).toList.map (fun c => (⟨#[c]⟩ : Str)) = acc.toList.map (fun c => (⟨#[c]⟩ : Str)) ++ l := by
  induction l with
  | nil => intro acc; simp
  | cons a q ih =>
    intro acc
    rw [List.foldl_cons, ih (fun k hk => h k (.tail _ hk))]
    have ha := h a (.head _)
    rw [abc_is] at ha
    have e : a.cps.toList.map (fun c => (⟨#[c]⟩ : Str)) = [a] := by
      simp only [List.mem_cons, List.not_mem_nil, or_false] at ha
      rcases ha with rfl | rfl | rfl <;> decide
    rw [Array.toList_append, Array.toList_append, List.map_append, List.map_append, e]
    simp
theorem join_letters (ks : List Str) (h : ∀ k ∈ ks, k ∈ abc) : (Txt.join (Str.ofString "") ks).cps.toList.map (fun c => (⟨#[c]⟩ : Str)) = ks := by
  cases ks with
  | nil => decide
  | cons a q =>
    have h1 := join_fold (a :: q) h #[]
    rw [List.foldl_cons] at h1
    have e : (#[] : Array Nat) ++ #[] ++ a.cps = a.cps := by simp
    rw [e] at h1
    exact h1
theorem strsAre_of (ks : List Str) : ∀ vs : List Value, vs.length = ks.length → (∀ (i : Nat) v, vs[i]? = some v → LetterAt ks i v) → StrsAre vs ks := by
  induction ks with
  | nil => intro vs hl h; cases vs with | nil => exact .nil | cons a r => cases hl
  | cons k q ih =>
    intro vs hl h
    cases vs with
    | nil => cases hl
    | cons a r =>
      obtain ⟨k', tk, e, rfl⟩ := h 0 a rfl
      cases e
      exact .cons k tk (ih r (by simpa using hl) fun i v hv => by
        obtain ⟨k', tk, e, rfl⟩ := h (i + 1) v (by rw [List.getElem?_cons_succ]; exact hv)
        rw [List.getElem?_cons_succ] at e
        exact ⟨k', tk, e, rfl⟩)
theorem letters_of {items : Array Value} (h : ∀ (i : Nat) v, items[i]? = some v → ∃ k, k ∈ abc ∧ ∃ t, v = .str k t) : ∃ ks : List Str, items.size = ks.length ∧ (∀ (i : Nat) v, items[i]? = some v → LetterAt ks i v) ∧ ∀ k ∈ ks, k ∈ abc := by
  refine ⟨items.toList.map kyv, by simp, fun i v e => ?_, fun k hk => ?_⟩
  · obtain ⟨k, _, t, rfl⟩ := h i v e
    exact ⟨k, t, by rw [List.getElem?_map, Array.getElem?_toList, e]; rfl, rfl⟩
  · obtain ⟨v, hv, rfl⟩ := List.mem_map.mp hk
    obtain ⟨i, e⟩ := List.getElem?_of_mem hv
    rw [Array.getElem?_toList] at e
    obtain ⟨k, hk', t, rfl⟩ := h i v e
    exact hk'

section
variable {w : World} {A : Around} {E : Value → Shared → Prop} {s : Shared} {env : Env}
theorem pe_join {d : Str} {p1 p2 pos ap : Pos} {c : Nat} {a : Addr} {items : Array Value} {ks : List Str} {h : Heap} (nd : Nm env h d (.ref a)) (hl : h.IsList a items) (hs : StrsAre items.toList ks) (hk : ∀ k ∈ ks, k ∈ abc) (hlen : ks.length ≤ 1000)
    (hline : (ap.endLine == pos.line) = true := by rfl) :
    PE w env h (.Call (.Attribute (.Constant (.str "") c p1) "join" ap) [.Name d p2] [] pos) (fun v => ∃ x t, v = .str x t ∧ x.cps.toList.map (fun c => (⟨#[c]⟩ : Str)) = ks) := fun A E Q s rm up q => by
  refine call_attr (hline := hline) (wpAny_Constant_str (GM.join ?_))
  refine callWith_builtin rfl (evalArgs_plain (spliced_cons ((nd _ _) A _ E _ up (spliced_nil ?_))))
  refine join_list (isList_at hl (up a)) hs ?_ fun t' k => q _ _ ⟨_, k, rfl, fun _ _ e => e⟩ ⟨_, t', rfl, join_letters ks hk⟩
  have : ∀ l : List Str, (∀ k ∈ l, k ∈ abc) → (l.map (·.length)).sum ≤ l.length := by
    intro l
    induction l with
    | nil => intro _; simp
    | cons a r ih =>
      intro h
      have h1 := ih fun k hk => h k (.tail _ hk)
      have ha := h a (.head _)
      rw [abc_is] at ha
      have e : a.length = 1 := by
        simp only [List.mem_cons, List.not_mem_nil, or_false] at ha
        rcases ha with rfl | rfl | rfl <;> rfl
      rw [List.map_cons, List.sum_cons, List.length_cons, e]; omega
  have h1 := this ks hk
  have h2 : (Str.ofString "").length = 0 := rfl
  rw [h2, Nat.mul_zero]; omega
end
end Mine
end

section
open PySem PySem.W PyProof.Rows PySem.Calls Builtin
set_option linter.unusedVariables false
namespace Mine
set_option maxRecDepth 100000
set_option maxHeartbeats 4000000

theorem fmod3 (z : Int) : ∃ k : Nat, k < 3 ∧ z.fmod 3 = (k : Int) := by
  have h1 := Int.fmod_nonneg_of_pos z (show (0 : Int) < 3 by decide)
  have h2 := Int.fmod_lt_of_pos z (show (0 : Int) < 3 by decide)
  exact ⟨(z.fmod 3).toNat, by omega, by omega⟩
def Handed (Rw : Addr) (ks : List Str) (v : Value) : Prop := v = .ref Rw ∨ ∃ x t, v = .str x t ∧ x.cps.toList.map (fun c => (⟨#[c]⟩ : Str)) = ks

theorem filter_len (ks : List Str) (k : Str) : ∀ vs : List Value, vs.length = ks.length → (∀ (j : Nat) v, vs[j]? = some v → LetterAt ks j v) → (vs.filter (pv fun x => decide (x = k))).length = (ks.filter fun x => decide (x = k)).length := by
  induction ks with
  | nil => intro vs h _; cases vs with | nil => rfl | cons a r => cases h
  | cons a q ih =>
    intro vs hl h
    cases vs with
    | nil => cases hl
    | cons v r =>
      obtain ⟨k', tk, e, rfl⟩ := h 0 v rfl
      cases e
      have h' := ih r (by simpa using hl) fun i v hv => by
        obtain ⟨k', tk, e, rfl⟩ := h (i + 1) v (by rw [List.getElem?_cons_succ]; exact hv)
        rw [List.getElem?_cons_succ] at e
        exact ⟨k', tk, e, rfl⟩
      rw [List.filter_cons, List.filter_cons]
      by_cases ea : a = k
      · rw [if_pos (show pv (fun x => decide (x = k)) (.str a tk) = true from decide_eq_true ea), if_pos (decide_eq_true ea), List.length_cons, List.length_cons, h']
      · rw [if_neg (show ¬ pv (fun x => decide (x = k)) (.str a tk) = true from fun z => ea (of_decide_eq_true z)), if_neg (fun z => ea (of_decide_eq_true z)), h']

theorem pb_seq {w : World} {env : Env} {h : Heap} {a b : Str} {x y : Str} {t u : Tok} {p1 p2 pos : Pos} (na : Nm env h a (.str x t)) (nb : Nm env h b (.str y u)) (hm : behindInMarks .Eq (.Name b p2) = false := by with_unfolding_all rfl) :
    PB w env h (.Compare (.Name a p1) [.Eq] [.Name b p2] pos) (x == y) := fun A E Q s rm up q => by
  refine wpAny_isTrue_Compare1 ((na _ _) A _ E s up ((nb _ _) A _ E s up ?_)) hm
  exact SeqAt.RcAt.str_str x t y u _ _ _ _ (wpAny_truthy_bool (q _ (keeps_refl s)))

theorem seg2 {w : World} {A : Around} {E : Value → Shared → Prop} {s : Shared} {env : Env} {L : Nat} {m : Str → Option Value} {cm : Nat → Option Value} {a : Addr} {cd : Value} {Q : Flow → Shared → Prop} {N : Addr}
    (hE : lawEnv w L a cd = env) (rm : Rm 90 A) (W : Wd w s.heap) (hW : @LT.lt Nat _ 95 L) (c : LC L s.heap m cm) (h1 : m "numbers" = some (.ref N)) (h2 : ∃ z t, m "head" = some (.int z t)) (hN : LL s.heap N 4 AnyInt) (oN : Out L N)
    (hQ : ∀ m' v0 ks Rw Cn CD v h' tk, LC L h' m' (fun i => if i = 3 then v0 else cm i) → m' "counted" = some (.ref Cn) → m' "handed" = some v → Handed Rw ks v → LL h' Rw ks.length (LetterAt ks) → Dc w h' Cn CD → (∀ x, lk CD x = lk (cnt ks) x) → (∀ k ∈ ks, k ∈ abc) → ks.length ≤ 1000 →
      s.heap.get? Cn = none → Out L Cn → Out L Rw → Fx L s.heap h' → wpAny (model pg w) A (execs ((lawBd w).drop 8) env) Q E { s with heap := h', toks := tk }) :
    wpAny (model pg w) A (execs ((lawBd w).drop 4) env) Q E s := by
  have hL : env.locals = L := by rw [← hE]; rfl
  have kF : env.scope.kind = .function := by rw [← hE]; kernel_rfl
  unfold lawBd at hQ ⊢
  rw [show (KH w).lookup 95 = some _ from rfl] at hQ ⊢
  dsimp only [List.drop] at hQ ⊢
  have kn : env.kindOf "numbers" = some .local := by rw [← hE]; kernel_rfl
  have kr : env.kindOf "row" = some .local := by rw [← hE]; kernel_rfl
  have kc : env.kindOf "counted" = some .local := by rw [← hE]; kernel_rfl
  have kh : env.kindOf "head" = some .local := by rw [← hE]; kernel_rfl
  have kd : env.kindOf "handed" = some .local := by rw [← hE]; kernel_rfl
  have kl : env.kindOf "letter" = some .cell := by rw [← hE]; kernel_rfl
  have cl : env.cells.lookup ("letter" : Str) = some (L + 3) := by rw [← hE]; kernel_rfl
  have nN : Nm env s.heap "numbers" (.ref N) := nm_l kF hL kn c h1
  refine wpAny_execs_cons ?_
  refine as_lcomp (cl := []) (fun v y => ∃ k, k ∈ abc ∧ ∃ t, y = .str k t) hL c (it_slice (lo := some 1) (hi := none) rm.1 nN hN (by decide) (fun s' Q _ q => part_int q) (fun s' Q _ q => part_none q)) (by rw [← hE]; kernel_rfl) (by rw [← hE]; kernel_rfl) (by decide) rfl (by decide) (by decide) kr (by rw [kF]; rfl) ?_ ?_
  · rintro C i v s₃ m₃ E' ⟨z, t, rfl⟩ hn₃ hm up
    generalize hCE : compEnvC _ _ C env = ce
    have a2 : Nm ce s₃.heap "number" (.int z t) := nm_local (by rw [← hCE]; kernel_rfl) (by rw [← hCE, ← hE]; kernel_rfl) (m := m₃) (by rw [← hCE]; exact hn₃) hm
    obtain ⟨k, hk, e⟩ := fmod3 z
    refine pe_abc (h := s₃.heap) (w := w) (.bin _ _ _ _) hk ((pe_mod (by decide) (pe_nint a2) pe_int).mono fun v hv => by rw [← e]; exact hv) _ _ _ _ (rm.le (by decide)) (fun _ _ e => e) fun v s' ks ⟨t, hv⟩ => ⟨⟨_, abc_mem hk, t, hv⟩, ks⟩
  rintro n' R₀ h₁ t₁ - hn' c₁ f₁ hR0 hR
  have oR := out_of c hR0
  obtain ⟨its, hl, hsz, hp⟩ := hR
  obtain ⟨ks, hks, hlet, hin⟩ := letters_of fun i v e => let ⟨_, _, q⟩ := hp i v e; q
  have hR : LL h₁ R₀ ks.length (LetterAt ks) := ⟨its, hl, hks, hlet⟩
  have hkl : ks.length ≤ 1000 := by omega
  clear hl hp hlet hks hsz
  have q1 : (fun z : Str => if z = "row" then some (Value.ref R₀) else m z) "row" = some (.ref R₀) := by simp
  have r1 : ∃ z' t', (fun z : Str => if z = "row" then some (Value.ref R₀) else m z) "head" = some (.int z' t') := let ⟨z, t, e⟩ := h2; ⟨z, t, mset e⟩
  generalize (fun z : Str => if z = "row" then some (Value.ref R₀) else m z) = m₁ at c₁ q1 r1
  refine wpAny_execs_cons (wpAny_Assign_Name (wpAny_Dict_empty ?_) (by rw [← hE]; kernel_rfl))
  refine st_l (s := { s with heap := h₁.push { cls := .type "dict", data := .dict #[] }, toks := t₁ }) kF hL kc (c₁.keeps fun b o e => Heap.get?_push_of_some _ e) fun h₃ t₃ c₃ f₃ => ?_
  obtain ⟨P, hP⟩ : ∃ P, P = h₁.objs.size := ⟨_, rfl⟩
  have hdn : Dc w (h₁.push { cls := .type "dict", data := .dict #[] }) P [] := by
    refine ⟨[], DL.of_dictOf ?_ ?_, FA.nil⟩
    · rw [hP]; have := c₁.lt 0 (by decide); exact Nat.lt_trans hW this
    · rw [hP]; exact Heap.DictOf.new h₁
  have oP : Out L P := by rw [hP]; exact .inr (c₁.lt 6 (by decide))
  have hP0 : s.heap.get? P = none := by
    cases q : s.heap.get? P with
    | none => rfl
    | some o =>
      have := f₁ P o oP q
      exact absurd (Heap.lt_size this) (by rw [hP]; exact Nat.lt_irrefl _)
  have hRP : R₀ ≠ P := by rw [hP]; exact neA (Nat.ne_of_lt hR.lt)
  have hd₃ : Dc w h₃ P [] := hdn.low fun o e => f₃ P o (oP.ne 0 (by decide)) e
  have hR₃ : LL h₃ R₀ ks.length (LetterAt ks) := hR.at' fun o e => f₃ R₀ o (oR.ne 0 (by decide)) (Heap.get?_push_of_some _ e)
  have F₃ : Fx L s.heap h₃ := fun b o hb e => f₃ b o (Out.ne hb 0 (by decide)) (Heap.get?_push_of_some _ (f₁ b o hb e))
  rw [← hP] at c₃
  have q3 : (fun z : Str => if z = "counted" then some (Value.ref P) else m₁ z) "row" = some (.ref R₀) := mset q1
  have r3 : ∃ z' t', (fun z : Str => if z = "counted" then some (Value.ref P) else m₁ z) "head" = some (.int z' t') := let ⟨z, t, e⟩ := r1; ⟨z, t, mset e⟩
  have u3 : (fun z : Str => if z = "counted" then some (Value.ref P) else m₁ z) "counted" = some (.ref P) := by simp
  generalize (fun z : Str => if z = "counted" then some (Value.ref P) else m₁ z) = m₃ at c₃ q3 r3 u3
  clear hdn c₁ f₁ hR
  have W₃ : Wd w h₃ := W.low fun b o hb e => F₃ b o (.inl (by omega)) e
  have nR : Nm env h₃ "row" (.ref R₀) := nm_l kF hL kr c₃ q3
  refine wpAny_execs_cons (wpAny_For ((it_list (s := { s with heap := h₃, toks := t₃ }) rm.1 nR hR₃ hkl) _ fun n' I fp h₄ t₄ St hN' hn' up₄ hI hfp hown Wk hst => ?_) (by intro _; rfl))
  subst hN'
  have hI : h₃.get? I = none := hI
  have live : ∀ b o, h₃.get? b = some o → b ∉ [I] := fun b o e => nin1 (fun z => by rw [show b = I from z, hI] at e; cases e)
  have cupd : ∀ (v : Option Value), (fun i => if i = 3 then v else (fun i => if i = 3 then cm 3 else cm i) i) = (fun i => if i = 3 then v else cm i) := fun v => by
    funext i; by_cases e : i = 3 <;> simp [e]
  have c₃' : LC L h₃ m₃ (fun i => if i = 3 then cm 3 else cm i) := by
    rw [show (fun i => if i = 3 then cm 3 else cm i) = cm by funext i; by_cases e : i = 3 <;> simp [e]]; exact c₃
  refine for_core (s := { s with heap := h₄, toks := t₄ }) (wr := [((L + 3 : Nat) : Addr), P]) Wk
    (fun i h => ∃ v0, LC L h m₃ (fun i => if i = 3 then v0 else cm i) ∧ LL h R₀ ks.length (LetterAt ks) ∧ Dc w h P ((ks.take i).foldl (cnt1 ks) []) ∧ Fx L s.heap h) hst
    ⟨_, c₃'.keeps up₄, hR₃.keeps up₄, hd₃.keeps up₄, F₃.trans (.of up₄)⟩ ?_ ?_ ?_ ?_
  · intro b hb
    rcases hown b hb with hb0 | hb0
    · replace hb0 : h₃.get? b = none := hb0
      refine nin2 (fun z => ?_) (fun z => ?_)
      · obtain ⟨o, e, _⟩ := c₃.cell 3 (by decide) (by decide); rw [show b = (L + 3 : Nat) from z, e] at hb0; cases hb0
      · obtain ⟨kvs, ⟨ep, nm, es, e, _⟩, _⟩ := hd₃; rw [show b = P from z, e] at hb0; cases hb0
    · rcases List.mem_cons.mp hb0 with rfl | hb0
      · exact nin2 (oR.ne 3 (by decide)) hRP
      · cases hb0
  · rintro i h h' ⟨v0, c', a3, a4, a7⟩ hk
    have lL : (L : Addr) ∉ [I] := by obtain ⟨o, es, ep, e, _⟩ := c₃.ns; exact live _ _ e
    have lP : P ∉ [I] := by obtain ⟨kvs, ⟨ep, nm, es, e, _⟩, _⟩ := hd₃; exact live _ _ e
    have lN : R₀ ∉ [I] := by obtain ⟨its, ⟨o, e, _⟩, _⟩ := hR₃; exact live _ _ e
    refine ⟨v0, ⟨let ⟨o, es, ep, e, r⟩ := c'.ns; ⟨o, es, ep, hk _ _ lL e, r⟩, fun j h1 h2 => ?_⟩, a3.at' fun o e => hk _ o lN e, a4.low fun o e => hk _ o lP e, fun b o hb e => hk b o (live b o (F₃ b o hb e)) (a7 b o hb e)⟩
    obtain ⟨o, e, r⟩ := c'.cell j h1 h2
    obtain ⟨o', e', _⟩ := c₃.cell j h1 h2
    exact ⟨o, hk _ _ (live _ _ e') e, r⟩
  · rintro i v h tk' E'' hi ⟨k, tk, hki, rfl⟩ ⟨v0, c', a3, a4, a7⟩ hk'
    refine wpAny_assign_Name ?_
    refine wpAny_storeName_cell kF kl cl (c'.cell 3 (by decide) (by decide)) fun h₅ cc₅ s₅ => ?_
    have c₅ : LC L h₅ m₃ (fun i => if i = 3 then some (.str k tk) else cm i) := by
      refine ⟨c'.ns.sameBut s₅ (Ne.symm (neA (lne (by decide)))), fun j h1 h2 => ?_⟩
      by_cases e : j = 3
      · subst e; rw [if_pos rfl]; exact cc₅
      · have := c'.cell j h1 h2
        rw [if_neg e] at this ⊢
        obtain ⟨o, ho, r⟩ := this
        exact ⟨o, (s₅.2 _ (neA (jne e))).trans ho, r⟩
    have hR₅ : LL h₅ R₀ ks.length (LetterAt ks) := a3.at' fun o e => (s₅.2 _ (oR.ne 3 (by decide))).trans e
    have hP₅ : Dc w h₅ P ((ks.take i).foldl (cnt1 ks) []) := a4.low fun o e => (s₅.2 _ (oP.ne 3 (by decide))).trans e
    have F₅ : Fx L s.heap h₅ := fun b o hb e => (s₅.2 b (Out.ne hb 3 (by decide))).trans (a7 b o hb e)
    have W₅ : Wd w h₅ := W.low fun b o hb e => F₅ b o (.inl (by omega)) e
    have nR : Nm env h₅ "row" (.ref R₀) := nm_l kF hL kr c₅ q3
    have nC : Nm env h₅ "counted" (.ref P) := nm_l kF hL kc c₅ u3
    have nL : Nm env h₅ "letter" (.str k tk) := nm_c 3 (by decide) (by decide) kF kl cl c₅ (by simp)
    have nlen : Nm env h₅ "len" (.builtin "len") := nm_builtin W₅ kF (by rw [← hE]; kernel_rfl) (by rw [← hE]; kernel_rfl) (by rw [← hE]; kernel_rfl) (by kernel_rfl) (by boot_fast) (by decide)
    refine wpAny_execs_cons (wpAny_Assign_Subscript ?_)
    refine call1 ((nlen _ _).keeps fun _ _ e => e) ?_
    refine wpAny_ListComp_free (cl := [("letter", L + 3)]) (pv fun x => decide (x = k)) (fun _ _ => True) (by rw [← hE]; kernel_rfl) (by decide) rfl (by decide) (by decide) ((it_list rm.1 nR hR₅ hkl) _ fun n' I' fp' h₆ t₆ St' hN' hn' up₆ hI' hfp' hown' Wk' hst' => ?_)
    subst hN'
    have live' : ∀ b o, h₅.get? b = some o → b ∉ [I'] := fun b o e => nin1 (fun z => by rw [show b = I' from z] at e; rw [show h₅.get? I' = none from hI'] at e; cases e)
    refine ⟨I', fp', [I'], _, _, St', rfl, Wk', by rw [sizeLine_eq]; omega, hst', hfp', ⟨?_, ?_⟩, ?_⟩
    · rintro C j v s₇ m₇ E₇ hC ⟨k', tk', hkj, rfl⟩ hn hm hk htk
      generalize hCE : compEnvC _ _ C env = ce
      have up₇ : Up h₅ s₇.heap := fun b o e => hk b o (live' b o e) (up₆ b o e)
      have a1 : Nm ce s₇.heap "letter" (.str k tk) := nm_cell (by rw [← hCE]; kernel_rfl) (by rw [← hCE, ← hE]; kernel_rfl) (by rw [← hCE]; kernel_rfl) (by have := (c₅.keeps up₇).cell 3 (by decide) (by decide); exact this)
      have a2 : Nm ce s₇.heap "other" (.str k' tk') := nm_local (by rw [← hCE]; kernel_rfl) (by rw [← hCE, ← hE]; kernel_rfl) (m := m₇) (by rw [← hCE]; exact hn) hm
      refine pt_one (h := s₇.heap) (w := w) (pb_seq a2 a1) _ _ _ _ (rm.le (by decide)) (fun _ _ e => e) fun s₈ ks => ⟨?_, ks⟩
      show (k' == k) = decide (k' = k)
      rw [Bool.eq_iff_iff, beq_iff_eq, decide_eq_true_iff]
    · rintro C j v s₇ m₇ E₇ hC ⟨k', tk', hkj, rfl⟩ _ hn hm hk htk
      generalize hCE : compEnvC _ _ C env = ce
      have a2 : Nm ce s₇.heap "other" (.str k' tk') := nm_local (by rw [← hCE]; kernel_rfl) (by rw [← hCE, ← hE]; kernel_rfl) (m := m₇) (by rw [← hCE]; exact hn) hm
      exact (a2 _ _) _ _ _ _ (fun _ _ e => e) ⟨trivial, keeps_refl _⟩
    · intro D h₇ t₇ ys vs hD hl hpl hlen hPv hF hk
      have up₇ : Up h₅ h₇ := fun b o e => hk b o (live' b o e) (up₆ b o e)
      have hys : ys.size = (ks.filter fun x => decide (x = k)).length := by
        rw [← filter_len ks k vs hlen hPv, hF.length]; rfl
      have hfl : (ks.filter fun x => decide (x = k)).length ≤ ks.length := List.length_filter_le _ _
      refine call_len_list (s := { s with heap := h₇, toks := t₇ }) hl (by omega) ?_
      refine (nC _ _) _ _ _ _ up₇ ((nL _ _) _ _ _ _ up₇ ?_)
      rw [hys]
      have hlb : ((ks.take i).foldl (cnt1 ks) []).length ≤ 1000 := by
        have : ∀ (l : List Str) (r : Ct), (l.foldl (cnt1 ks) r).length ≤ r.length + l.length := by
          intro l
          induction l with
          | nil => intro r; exact Nat.le_refl _
          | cons a q ih => intro r; have := ih (cnt1 ks r a); have h2 : (cnt1 ks r a).length ≤ r.length + 1 := st_len _ _ _; rw [List.foldl_cons, List.length_cons]; omega
        have := this (ks.take i) []
        rw [List.length_take, List.length_nil] at this; omega
      refine set_dc (i := cntOf ks k) (s := { s with heap := h₇, toks := _ }) (hP₅.keeps up₇) (by omega) fun h₉ t₉ x₉ s₉ => ?_
      refine wpAny_execs_nil ⟨rfl, h₉, _, rfl, ⟨some (.str k tk), ⟨(c₅.keeps up₇).ns.sameBut s₉ (Ne.symm (oP.ne 0 (by decide))), fun j h1 h2 => ?_⟩, (hR₅.keeps up₇).at' fun o e => (s₉.2 _ hRP).trans e, ?_, ?_⟩, ?_⟩
      · obtain ⟨o, e, r⟩ := (c₅.keeps up₇).cell j h1 h2
        exact ⟨o, (s₉.2 _ (Ne.symm (oP.ne j h2))).trans e, r⟩
      · rw [List.take_add_one, hki]
        have : (ks.take i ++ (some k).toList).foldl (cnt1 ks) [] = st ((ks.take i).foldl (cnt1 ks) []) k (cntOf ks k) := by simp [cnt1]
        rw [this]; exact x₉
      · intro b o hb e
        refine (s₉.2 b fun z => ?_).trans (up₇ b o (F₅ b o hb e))
        rw [z, hP0] at e; cases e
      · intro b o hb' e
        exact (s₉.2 b (fun z => hb' (by rw [z]; exact .tail _ (.head _)))).trans (up₇ _ _ ((s₅.2 b (fun z => hb' (by rw [z]; exact .head _))).trans e))
  · rintro h tk ⟨v0, c', a3, a4, a7⟩ hk'
    rw [List.take_of_length_le (Nat.le_refl _)] at a4
    have nR : Nm env h "row" (.ref R₀) := nm_l kF hL kr c' q3
    obtain ⟨zh, th, r3'⟩ := r3
    have nH : Nm env h "head" (.int zh th) := nm_l kF hL kh c' r3'
    refine wpAny_execs_cons ?_
    obtain ⟨its, hl, hsz, hp⟩ := id a3
    refine as_pe (s := { s with heap := h, toks := tk }) (P := Handed R₀ ks) kF hL kd c' (rm.le (by decide)) (pe_if (pb_eq (pe_mod (by decide) (pe_fdiv (by decide) (by decide) (pe_nint nH) pe_int) pe_int) pe_int) (fun _ => (pe_name nR).mono fun v hv => .inl hv) (fun _ => (pe_join nR hl (strsAre_of ks its.toList (by simp [hsz]) fun i v e => hp i v (by rw [← Array.getElem?_toList]; exact e)) hin hkl).mono fun v hv => .inr hv)) ?_
    rintro v h₆ t₆ hv c₆ f₆
    exact hQ _ v0 ks R₀ P _ v h₆ t₆ c₆ (mset u3) (by simp) hv (a3.at' fun o e => f₆ _ o (oR.ne 0 (by decide)) e) (a4.low fun o e => f₆ _ o (oP.ne 0 (by decide)) e) (cnt_same ks) hin hkl hP0 oP oR (a7.trans f₆.fx)
end Mine
end

section
open PySem PySem.W PyProof.Rows PySem.Calls Builtin
set_option linter.unusedVariables false
namespace Mine
set_option maxRecDepth 100000
set_option maxHeartbeats 4000000

section
variable {w : World} {A : Around} {E : Value → Shared → Prop} {s : Shared} {env : Env}
theorem get_copy {x : Addr} {D : Ct} {pl : Sem Bool} {Q : Value × List Value → Shared → Prop} {M : Model} (W : Wd w s.heap) (c : Cr w s.heap x D) (h : Q (.ref 37, [.ref x]) s) : wpAny M A (getMethod (.ref x) "copy" pl) Q E s := by
  obtain ⟨dx, kvs, dl, fa, ed⟩ := c
  have DC := dcls_ctr W.K
  obtain ⟨g, hg, hcan⟩ := DC.ga
  unfold getMethod
  refine wpAny_bind ((dl.special (hg _)).here ?_)
  show wpAny M A (if (Manifest.canonical g != "object.__getattribute__") = true then _ else _) Q E s
  rw [hcan, if_neg Bool.false_ne_true]
  refine wpAny_bind ((dl.special (DC.gattr _)).here ?_)
  refine wpAny_bind ((dl.special (looks_findIn W.K (r := some (.ref 37)) (by kernel_rfl))).here ?_)
  refine wpAny_bind ((looks_typeIn (t := .type "function") W.K (by kernel_rfl)).here ?_)
  rw [if_neg (by decide)]
  obtain ⟨ep, nm, es, ho, _⟩ := id dl
  refine wpAny_bind (wpAny_loadPart ho ?_)
  refine wpAny_bind (wpAny_bind (wpAny_loadPart ed ?_))
  rw [nsLook_of (r := none) rfl]
  refine wpAny_pure ?_
  exact wpAny_bind (wpAny_rule (wpAny_pure h))

theorem e_copy {o : Expr} {ap pos : Pos} {Q : Value → Shared → Prop} (rm : Rm 62 A)
    (h : wpAny (model pg w) A (eval o env) (fun v s₁ => ∃ x D, v = .ref x ∧ Cr w s₁.heap x D ∧ Wd w s₁.heap ∧ D.length ≤ 400 ∧ ∀ y h' tk, Up s₁.heap h' → @LE.le Nat _ s₁.heap.objs.size y → Cr w h' y D → Q (.ref y) { s₁ with heap := h', toks := tk }) E s)
    (hbase : attributeBase o "copy" env (eval o env) = eval o env := by rfl) (hline : (ap.endLine == pos.line) = true := by rfl) :
    wpAny (model pg w) A (eval (.Call (.Attribute o "copy" ap) [] [] pos) env) Q E s := by
  refine call_attr (hbase := hbase) (hline := hline) (wpAny_mono h (fun v s₁ h₁ => ?_) fun _ _ e => e)
  obtain ⟨x, D, rfl, c, W, hlen, hQ⟩ := h₁
  refine get_copy W c ?_
  refine callWith_K0 W.K (by kernel_rfl) ?_
  exact wpAny_call (c_copy (rm.le (by decide)) W c (by omega) hQ)

theorem e_call2 {f : Addr} {fn : Str} {e1 e2 : Expr} {p pos : Pos} {Q : Value → Shared → Prop} (X : (KH w).In s.heap) (hk : keepIn (KH w) (.ref f) = true) (n : Nm env s.heap fn (.ref f))
    (h : wpAny (model pg w) A (eval e1 env) (fun v s₁ => wpAny (model pg w) A (eval e2 env) (fun v' s₂ => (KH w).In s₂.heap ∧ wpAny (model pg w) A (call (.ref f) [v, v']) Q E s₂) E s₁) E s)
    (he : starEach [e1, e2] env = [(false, eval e1 env), (false, eval e2 env)]) (he' : starEach [e1, e2] env = (false, eval e1 env) :: starEach [e2] env) : wpAny (model pg w) A (eval (.Call (.Name fn p) [e1, e2] [] pos) env) Q E s := by
  refine wpAny_Call_Name_kw ((n _ _).here ?_)
  have he2 : starEach [e2] env = [(false, eval e2 env)] := by rw [he'] at he; injection he
  refine callWith_K X hk ?_ he' (by rw [he2]; rfl)
  rw [he]
  exact spliced_cons (wpAny_mono h (fun v s₁ h₁ => spliced_cons (wpAny_mono h₁ (fun v' s₂ h₂ => spliced_nil h₂) fun _ _ e => e)) fun _ _ e => e)
theorem e_call3 {f : Addr} {fn : Str} {e1 e2 e3 : Expr} {p pos : Pos} {Q : Value → Shared → Prop} (X : (KH w).In s.heap) (hk : keepIn (KH w) (.ref f) = true) (n : Nm env s.heap fn (.ref f))
    (h : wpAny (model pg w) A (eval e1 env) (fun v s₁ => wpAny (model pg w) A (eval e2 env) (fun v' s₂ => wpAny (model pg w) A (eval e3 env) (fun v'' s₃ => (KH w).In s₃.heap ∧ wpAny (model pg w) A (call (.ref f) [v, v', v'']) Q E s₃) E s₂) E s₁) E s)
    (he : starEach [e1, e2, e3] env = [(false, eval e1 env), (false, eval e2 env), (false, eval e3 env)]) (he1 : starEach [e1, e2, e3] env = (false, eval e1 env) :: starEach [e2, e3] env) : wpAny (model pg w) A (eval (.Call (.Name fn p) [e1, e2, e3] [] pos) env) Q E s := by
  refine wpAny_Call_Name_kw ((n _ _).here ?_)
  have he2 : starEach [e2, e3] env = [(false, eval e2 env), (false, eval e3 env)] := by rw [he1] at he; injection he
  refine callWith_K X hk ?_ he1 (by rw [he2]; rfl)
  rw [he]
  exact spliced_cons (wpAny_mono h (fun v s₁ h₁ => spliced_cons (wpAny_mono h₁ (fun v' s₂ h₂ => spliced_cons (wpAny_mono h₂ (fun v'' s₃ h₃ => spliced_nil h₃) fun _ _ e => e)) fun _ _ e => e)) fun _ _ e => e)

theorem call_same {x y : Addr} {D D' : Ct} {Q : Value → Shared → Prop} (rm : Rm 62 A) (W : Wd w s.heap) (hx : Cr w s.heap x D) (hy : Dc w s.heap y D') (sm : ∀ k, lk D k = lk D' k) (hlen : D'.length ≤ 1000)
    (hQ : ∀ h' tk, Up s.heap h' → Q (.bool true) { s with heap := h', toks := tk }) : wpAny (model pg w) A (call (.ref 90) [.ref x, .ref y]) Q E s :=
  wpAny_call (c_same (rm.le (by decide)) W hx hy (same_of hx.nodup hy.nodup sm) hlen hQ)
end
end Mine
end

section
open PySem PySem.W PyProof.Rows PySem.Calls Builtin
set_option linter.unusedVariables false
namespace Mine
set_option maxRecDepth 100000
set_option maxHeartbeats 4000000

structure Pr (w : World) (L : Nat) (h : Heap) (x y : Addr) (D D' : Ct) : Prop where
  cr : Cr w h x D
  dc : Dc w h y D'
  same : ∀ k, lk D k = lk D' k
  inn : In D
  ox : Out L x
  oy : Out L y
def Sm (w : World) (L : Nat) (h : Heap) (Sl Mo : Addr) : Prop := @LT.lt Nat _ (L + 6) Sl ∧ @LT.lt Nat _ (L + 6) Mo ∧ ∃ its jts : Array Value, h.IsList Sl its ∧ h.IsList Mo jts ∧ its.size = 3 ∧ jts.size = 3 ∧ ∀ i : Nat, i < 3 → ∃ x y D D', its[i]? = some (.ref x) ∧ jts[i]? = some (.ref y) ∧ Pr w L h x y D D'
theorem Pr.keeps {w : World} {L : Nat} {h h' : Heap} {x y : Addr} {D D' : Ct} (p : Pr w L h x y D D') (k : Up h h') : Pr w L h' x y D D' := ⟨p.cr.keeps k, p.dc.keeps k, p.same, p.inn, p.ox, p.oy⟩
theorem Sm.keeps {w : World} {L : Nat} {h h' : Heap} {Sl Mo : Addr} (p : Sm w L h Sl Mo) (k : Up h h') : Sm w L h' Sl Mo :=
  let ⟨o1, o2, its, jts, a, b, c, d, e⟩ := p; ⟨o1, o2, its, jts, isList_at a (k _), isList_at b (k _), c, d, fun i hi => let ⟨x, y, D, D', u, v, q⟩ := e i hi; ⟨x, y, D, D', u, v, q.keeps k⟩⟩
theorem cr_fx {w : World} {L : Nat} {h h' : Heap} {x : Addr} {D : Ct} {m : Str → Option Value} {cm : Nat → Option Value} {n : Str} {v : Value} (c : Cr w h x D) (l : LC L h m cm) (hv : m n = some v) (ox : Out L x) (f : Fx L h h') : Cr w h' x D := by
  obtain ⟨dx, hc⟩ := c.crd
  refine (hc.at (h' := h') fun b o hb e => f b o ?_ e).cr
  rcases hb with rfl | rfl
  · exact ox
  · obtain ⟨_, _, _, ed⟩ := hc
    have h0 : ¬ @Eq Nat b L := fun z => by
      obtain ⟨o, es, ep, e', hd, _, hf⟩ := l.ns
      rw [show b = L from z] at ed
      rw [ed] at e'
      cases e'; cases hd
      have := hf n
      rw [hv] at this
      cases this
    have hj : ∀ j, 1 ≤ j → j ≤ 6 → ¬ @Eq Nat b (L + j) := fun j h1 h2 z => by
      obtain ⟨o, q, r⟩ := l.cell j h1 h2
      rw [← show b = (L + j : Nat) from z, ed] at q
      cases q
      simp [emptyDict] at r
    have h1 := hj 1 (by decide) (by decide)
    have h2 := hj 2 (by decide) (by decide)
    have h3 := hj 3 (by decide) (by decide)
    have h4 := hj 4 (by decide) (by decide)
    have h5 := hj 5 (by decide) (by decide)
    have h6 := hj 6 (by decide) (by decide)
    show @LT.lt Nat _ b L ∨ @LT.lt Nat _ (L + 6) b
    omega
theorem Pr.fx {w : World} {L : Nat} {h h' : Heap} {x y : Addr} {D D' : Ct} {m : Str → Option Value} {cm : Nat → Option Value} {n : Str} {v : Value} (p : Pr w L h x y D D') (l : LC L h m cm) (hv : m n = some v) (f : Fx L h h') : Pr w L h' x y D D' :=
  ⟨cr_fx p.cr l hv p.ox f, p.dc.low fun o e => f _ o p.oy e, p.same, p.inn, p.ox, p.oy⟩
theorem Sm.fx {w : World} {L : Nat} {h h' : Heap} {Sl Mo : Addr} {m : Str → Option Value} {cm : Nat → Option Value} {n : Str} {v : Value} (p : Sm w L h Sl Mo) (l : LC L h m cm) (hv : m n = some v) (f : Fx L h h') : Sm w L h' Sl Mo :=
  let ⟨o1, o2, its, jts, a, b, c, d, e⟩ := p; ⟨o1, o2, its, jts, isList_at a fun o e => f _ o (.inr o1) e, isList_at b fun o e => f _ o (.inr o2) e, c, d, fun i hi => let ⟨x, y, D, D', u, v, q⟩ := e i hi; ⟨x, y, D, D', u, v, q.fx l hv f⟩⟩

theorem seg3 {w : World} {A : Around} {E : Value → Shared → Prop} {s : Shared} {env : Env} {L : Nat} {m : Str → Option Value} {cm : Nat → Option Value} {a : Addr} {cd : Value} {Q : Flow → Shared → Prop} {P Cn Rw : Addr} {PD CD : Ct} {ks : List Str} {v : Value}
    (hE : lawEnv w L a cd = env) (rm : Rm 90 A) (W : Wd w s.heap) (hW : @LT.lt Nat _ 95 L) (c : LC L s.heap m cm) (h1 : cm 2 = some (.ref P)) (h2 : m "counted" = some (.ref Cn)) (h3 : m "handed" = some v)
    (hP : Dc w s.heap P PD) (iP : In PD) (oP : Out L P) (hC : Dc w s.heap Cn CD) (oC : Out L Cn) (hv : Handed Rw ks v) (hR : LL s.heap Rw ks.length (LetterAt ks)) (oR : Out L Rw) (hsame : ∀ x, lk CD x = lk (cnt ks) x) (hin : ∀ k ∈ ks, k ∈ abc) (hkl : ks.length ≤ 1000)
    (hQ : ∀ Sl Mo h' tk, LC L h' m (fun i => if i = 5 then some (.ref Sl) else if i = 4 then some (.ref Mo) else cm i) → Sm w L h' Sl Mo → Fx L s.heap h' → wpAny (model pg w) A (execs ((lawBd w).drop 11) env) Q E { s with heap := h', toks := tk }) :
    wpAny (model pg w) A (execs ((lawBd w).drop 8) env) Q E s := by
  have hL : env.locals = L := by rw [← hE]; rfl
  have kF : env.scope.kind = .function := by rw [← hE]; kernel_rfl
  unfold lawBd at hQ ⊢
  rw [show (KH w).lookup 95 = some _ from rfl] at hQ ⊢
  dsimp only [List.drop] at hQ ⊢
  have kc : env.kindOf "counted" = some .local := by rw [← hE]; kernel_rfl
  have kd : env.kindOf "handed" = some .local := by rw [← hE]; kernel_rfl
  have kp : env.kindOf "plain" = some .cell := by rw [← hE]; kernel_rfl
  have cp : env.cells.lookup ("plain" : Str) = some (L + 2) := by rw [← hE]; kernel_rfl
  have km : env.kindOf "models" = some .cell := by rw [← hE]; kernel_rfl
  have cM : env.cells.lookup ("models" : Str) = some (L + 4) := by rw [← hE]; kernel_rfl
  have kS : env.kindOf "slots" = some .cell := by rw [← hE]; kernel_rfl
  have cS : env.cells.lookup ("slots" : Str) = some (L + 5) := by rw [← hE]; kernel_rfl
  have nP : Nm env s.heap "plain" (.ref P) := nm_c 2 (by decide) (by decide) kF kp cp c h1
  have nC : Nm env s.heap "counted" (.ref Cn) := nm_l kF hL kc c h2
  refine wpAny_execs_cons (wpAny_Assign_Name (wpAny_List ?_) (by rw [← hE]; kernel_rfl))
  refine spliced_cons ((nP _ _) _ _ _ _ (fun _ _ e => e) (spliced_cons ((nC _ _) _ _ _ _ (fun _ _ e => e) (spliced_cons (wpAny_Dict_empty (spliced_nil ⟨by size_fits, ?_⟩))))))
  obtain ⟨E3, hE3⟩ : ∃ E3, E3 = s.heap.objs.size := ⟨_, rfl⟩
  obtain ⟨H1, hH1⟩ : ∃ H1, H1 = s.heap.push { cls := .type "dict", data := .dict #[] } := ⟨_, rfl⟩
  have up1 : Up s.heap H1 := fun b o e => by rw [hH1]; exact Heap.get?_push_of_some _ e
  have hd1 : Dc w H1 E3 [] := by
    refine ⟨[], DL.of_dictOf ?_ ?_, FA.nil⟩
    · rw [hE3]; have := c.lt 0 (by decide); exact Nat.lt_trans hW this
    · rw [hE3, hH1]; exact Heap.DictOf.new _
  have oE : Out L E3 := by rw [hE3]; exact .inr (c.lt 6 (by decide))
  dsimp only
  rw [← hH1, ← hE3]
  have oM' : @LT.lt Nat _ (L + 6) H1.objs.size := by rw [hH1, Heap.size_push]; exact Nat.lt_succ_of_lt (c.lt 6 (by decide))
  obtain ⟨Mo, hMo⟩ : ∃ Mo, Mo = H1.objs.size := ⟨_, rfl⟩
  obtain ⟨H2, hH2⟩ : ∃ H2, H2 = H1.push { cls := .type "list", data := .seq [Value.ref P, Value.ref Cn, Value.ref E3].toArray } := ⟨_, rfl⟩
  have hm2 : H2.IsList Mo #[.ref P, .ref Cn, .ref E3] := by rw [hMo, hH2]; exact ⟨_, Heap.get?_push_size _ rfl, rfl, _, rfl⟩
  have up2 : Up H1 H2 := fun b o e => by rw [hH2]; exact Heap.get?_push_of_some _ e
  rw [← hH2, ← hMo]
  rw [← hMo] at oM'
  have oM : Out L Mo := .inr oM'
  have up12 : Up s.heap H2 := fun b o e => up2 b o (up1 b o e)
  refine st_cell (s := { s with heap := H2, toks := _ }) 4 (by decide) (by decide) kF km cM (c.keeps up12) fun h₃ t₃ c₃ f₃ => ?_
  have F₃ : Fx L s.heap h₃ := fun b o hb e => f₃ b o hb (up12 b o e)
  have W₃ : Wd w h₃ := W.low fun b o hb e => F₃ b o (.inl (by omega)) e
  have hP₃ : Dc w h₃ P PD := hP.low fun o e => F₃ P o oP e
  have hC₃ : Dc w h₃ Cn CD := hC.low fun o e => F₃ Cn o oC e
  have hE₃ : Dc w h₃ E3 [] := hd1.low fun o e => f₃ E3 o oE (up2 _ _ e)
  have hM₃ : h₃.IsList Mo #[.ref P, .ref Cn, .ref E3] := isList_at hm2 fun o e => f₃ Mo o oM e
  have hR₃ : LL h₃ Rw ks.length (LetterAt ks) := hR.at' fun o e => F₃ Rw o oR e
  clear hm2 hd1 up1 up2 up12 hH1 hH2 hMo hE3
  have nP : Nm env h₃ "plain" (.ref P) := nm_c 2 (by decide) (by decide) kF kp cp c₃ (by simpa using h1)
  have nH : Nm env h₃ "handed" v := nm_l kF hL kd c₃ h3
  have nCt : ∀ {h}, Wd w h → Nm env h "Counter" (.ref 67) := fun W => nm_global W kF (by rw [← hE]; kernel_rfl) (by rw [← hE]; kernel_rfl) (by kernel_rfl)
  have hPl : PD.length ≤ 3 := in_len hP.nodup iP
  refine wpAny_execs_cons (wpAny_Assign_Name (wpAny_List ?_) (by rw [← hE]; kernel_rfl))
  refine spliced_cons (e_ctr1 (s := { s with heap := h₃, toks := t₃ }) W₃ (nCt W₃) ?_)
  refine dcomp (s := { s with heap := h₃, toks := t₃ }) (cl := [("plain", L + 2)]) (fun _ => true) (fun k => (lk PD k).getD 0) (rm.le (by decide)) W₃ (by rw [← hE]; kernel_rfl) (by decide) rfl (by decide) (by decide) (by decide) nP hP₃.tb (by omega) ?_ ?_ ?_
  · intro C h' k tk m' hk up' hns hm
    exact pt_nil
  · intro C h' k tk m' hk hp up' hns hm
    generalize hCE : compEnvC _ _ C env = ce
    have a1 : Nm ce h' "plain" (.ref P) := nm_cell (by rw [← hCE]; kernel_rfl) (by rw [← hCE, ← hE]; kernel_rfl) (by rw [← hCE]; kernel_rfl) (by have := (c₃.keeps up').cell 2 (by decide) (by decide); rw [show (if 2 = 4 then some (Value.ref Mo) else cm 2) = some (.ref P) by simpa using h1] at this; exact this)
    have a3 : Nm ce h' "key" (.str k tk) := nm_local (by rw [← hCE]; kernel_rfl) (by rw [← hCE, ← hE]; kernel_rfl) (m := m') (by rw [← hCE]; exact hns) hm
    exact pe_sub a1 a3 (hP₃.keeps up').tb (lk_getD hk)
  intro d0 h₄ t₄ up₄ hd0 hdc0
  have W₄ := W₃.keeps up₄
  refine ⟨W₄.K, ctr_tb (s := { s with heap := h₄, toks := t₄ }) (rm.le (by decide)) W₄ (.inr hdc0) (Nat.le_trans (mapD_len _ _) (by omega)) fun c0 h₅ t₅ up₅ hc0 cr0 => ?_⟩
  have W₅ := W₄.keeps up₅
  have up35 : Up h₃ h₅ := fun b o e => up₅ b o (up₄ b o e)
  refine spliced_cons (e_ctr1 (s := { s with heap := h₅, toks := t₅ }) W₅ (nCt W₅) ?_)
  refine (nH _ _) _ _ _ _ up35 ⟨W₅.K, ?_⟩
  have hR₅ := hR₃.keeps up35
  have key : ∀ (Q : Value → Shared → Prop), (∀ y h' tk, Up h₅ h' → @LE.le Nat _ h₅.objs.size y → Cr w h' y (cnt ks) → Q (.ref y) { s with heap := h', toks := tk }) → wpAny (model pg w) A (call (.ref 67) [v]) Q E { s with heap := h₅, toks := t₅ } := by
    intro Q q
    obtain ⟨its, hl, hsz, hp⟩ := hR₅
    rcases hv with rfl | ⟨x, t, rfl, hx⟩
    · exact ctr_seq (s := { s with heap := h₅, toks := t₅ }) (fr' := [Rw]) (rm.le (by decide)) W₅ (.inl rfl) (iter_list hl hsz hp) (nd_list hl) (fun b hb => by rcases List.mem_cons.mp hb with rfl | hb; exact let ⟨o, e, _⟩ := hl; ⟨o, e⟩; cases hb) hkl q
    · exact ctr_seq (s := { s with heap := h₅, toks := t₅ }) (fr' := []) (rm.le (by decide)) W₅ (.inl rfl) (by rw [← hx]; exact iter_str) nd_str (fun b hb => nomatch hb) hkl q
  refine key _ fun c1 h₆ t₆ up₆ hc1 cr1 => ?_
  have W₆ := W₅.keeps up₆
  refine spliced_cons (e_ctr0 (s := { s with heap := h₆, toks := t₆ }) W₆ (nCt W₆) ?_)
  have ht22 : h₆.IsTuple 22 #[] := ⟨_, W₆.K 22 _ rfl, rfl, _, rfl⟩
  refine ctr_seq (v := .ref 22) (ks := []) (s := { s with heap := h₆, toks := t₆ }) (fr' := [22]) (rm.le (by decide)) W₆ (.inr ⟨rfl, rfl⟩) (iter_tuple ht22) (nd_tuple ht22) (fun b hb => by rcases List.mem_cons.mp hb with rfl | hb; exact let ⟨o, e, _⟩ := ht22; ⟨o, e⟩; cases hb) (by decide) fun c2 h₇ t₇ up₇ hc2 cr2 => spliced_nil ⟨by size_fits, ?_⟩
  have lt6 : ∀ {h}, Up h₃ h → @LT.lt Nat _ (L + 6) h.objs.size := fun k => (c₃.keeps k).lt 6 (by decide)
  have up36 : Up h₃ h₆ := fun b o e => up₆ b o (up35 b o e)
  have up37 : Up h₃ h₇ := fun b o e => up₇ b o (up36 b o e)
  have o0 : Out L c0 := .inr (Nat.lt_of_lt_of_le (lt6 up₄) hc0)
  have o1 : Out L c1 := .inr (Nat.lt_of_lt_of_le (lt6 up35) hc1)
  have o2 : Out L c2 := .inr (Nat.lt_of_lt_of_le (lt6 up36) hc2)
  obtain ⟨Sl, hSl⟩ : ∃ Sl, Sl = h₇.objs.size := ⟨_, rfl⟩
  obtain ⟨H8, hH8⟩ : ∃ H8, H8 = h₇.push { cls := .type "list", data := .seq [Value.ref c0, Value.ref c1, Value.ref c2].toArray } := ⟨_, rfl⟩
  have hs8 : H8.IsList Sl #[.ref c0, .ref c1, .ref c2] := by rw [hSl, hH8]; exact ⟨_, Heap.get?_push_size _ rfl, rfl, _, rfl⟩
  have up8 : Up h₇ H8 := fun b o e => by rw [hH8]; exact Heap.get?_push_of_some _ e
  have oS' : @LT.lt Nat _ (L + 6) Sl := by rw [hSl]; exact lt6 up37
  have oS : Out L Sl := .inr oS'
  dsimp only
  rw [← hH8, ← hSl]
  have up38 : Up h₃ H8 := fun b o e => up8 b o (up37 b o e)
  have sm8 : Sm w L H8 Sl Mo := by
    refine ⟨oS', oM', _, _, hs8, isList_at hM₃ (up38 _), rfl, rfl, fun i hi => ?_⟩
    rcases (by omega : i = 0 ∨ i = 1 ∨ i = 2) with rfl | rfl | rfl
    · refine ⟨c0, P, _, PD, rfl, rfl, (((cr0.keeps up₆).keeps up₇).keeps up8), hP₃.keeps up38, fun k => ?_, ?_, o0, oP⟩
      · refine (lk_mapD (fun k => (lk PD k).getD 0) PD k).trans ?_
        cases q : lk PD k <;> simp
      · intro x hx
        replace hx : (lk (mapD (fun k => (lk PD k).getD 0) PD) x).isSome = true := hx
        rw [lk_mapD] at hx
        cases q : lk PD x with
        | none => rw [q] at hx; simp at hx
        | some z => exact iP x (by rw [q]; rfl)
    · refine ⟨c1, Cn, _, CD, rfl, rfl, (cr1.keeps up₇).keeps up8, hC₃.keeps up38, fun k => (hsame k).symm, ?_, o1, oC⟩
      intro x hx
      rw [show lk (cnt ks) x = _ from lk_cntf x ks []] at hx
      by_cases q : x ∈ ks
      · exact hin x q
      · rw [if_neg q] at hx; cases hx
    · exact ⟨c2, E3, _, [], rfl, rfl, cr2.keeps up8, hE₃.keeps up38, fun k => rfl, in_nil, o2, oE⟩
  refine st_cell (s := { s with heap := H8, toks := _ }) 5 (by decide) (by decide) kF kS cS (c₃.keeps up38) fun h₉ t₉ c₉ f₉ => ?_
  have sm9 := sm8.fx (c₃.keeps up38) h2 f₉
  have F₉ : Fx L s.heap h₉ := fun b o hb e => f₉ b o hb (up38 b o (F₃ b o hb e))
  have W₉ : Wd w h₉ := W.low fun b o hb e => F₉ b o (.inl (by omega)) e
  have hP₉ : Dc w h₉ P PD := hP.low fun o e => F₉ P o oP e
  clear key sm8 hs8 cr0 cr1 cr2 hdc0
  have nP : Nm env h₉ "plain" (.ref P) := nm_c 2 (by decide) (by decide) kF kp cp c₉ (by simpa using h1)
  have nS : Nm env h₉ "slots" (.ref Sl) := nm_c 5 (by decide) (by decide) kF kS cS c₉ (by simp)
  have nSame : Nm env h₉ "_law_same" (.ref 90) := nm_global W₉ kF (by rw [← hE]; kernel_rfl) (by rw [← hE]; kernel_rfl) (by kernel_rfl)
  obtain ⟨_, _, its, jts, hits, hjts, s1, s2, hall⟩ := id sm9
  obtain ⟨x0, y0, D0, D0', e1, e2, p0⟩ := hall 0 (by decide)
  have hy0 : y0 = P := by
    have : jts = #[.ref P, .ref Cn, .ref E3] := by
      obtain ⟨o, e, _, n, hd⟩ := hjts
      obtain ⟨o', e', _, n', hd'⟩ := isList_at hM₃ fun o e => f₉ Mo o oM (up38 _ _ e)
      rw [e] at e'; cases e'; rw [hd] at hd'; cases hd'; rfl
    rw [this] at e2
    injection e2 with e2; injection e2 with e2; exact e2.symm
  subst hy0
  refine wpAny_execs_cons (wpAny_If (wpAny_isTrue_Not (isTrue_plain ?_)))
  refine e_call2 (s := { s with heap := h₉, toks := t₉ }) W₉.K (by kernel_rfl) nSame ?_ rfl rfl
  refine e_copy (s := { s with heap := h₉, toks := t₉ }) (rm.le (by decide)) ?_
  refine (pe_at (w := w) (k := 0) (P := fun v => v = .ref x0) (.const _ _ _) nS hits (by decide) pe_int ⟨_, e1, rfl⟩) _ _ _ _ (rm.le (by decide)) (fun _ _ e => e) fun v' s' ks' hv' => ?_
  obtain ⟨ha, ta, rfl, ka⟩ := ks'
  refine ⟨x0, D0, hv', p0.cr.keeps ka, W₉.keeps ka, Nat.le_trans (in_len p0.cr.nodup p0.inn) (by decide), fun z hb tb kb lb cb => ?_⟩
  have kab : Up h₉ hb := fun b o e => kb b o (ka b o e)
  refine (nP _ _) _ _ _ _ kab ⟨(W₉.keeps kab).K, ?_⟩
  refine call_same (s := { s with heap := hb, toks := tb }) (rm.le (by decide)) (W₉.keeps kab) cb (p0.dc.keeps kab) p0.same (by have := in_len (D := D0') p0.dc.nodup (fun x hx => p0.inn x (by rw [p0.same]; exact hx)); omega) fun hc tc kc => ?_
  refine wpAny_truthy_bool ?_
  rw [if_neg (by decide)]
  have kac : Up h₉ hc := fun b o e => kc b o (kab b o e)
  exact wpAny_execs_nil (hQ Sl Mo hc tc (c₉.keeps kac) (sm9.keeps kac) (F₉.trans (.of kac)))
end Mine
end

section
open PySem PySem.W PyProof.Rows PySem.Calls Builtin
set_option linter.unusedVariables false
namespace Mine
set_option maxRecDepth 100000
set_option maxHeartbeats 4000000

section
variable {w : World} {A : Around} {E : Value → Shared → Prop} {env : Env}

theorem dcomp2 {s0 : Shared} {vx iter : Expr} {x : Str} {px pk : Pos} {ifs : List Expr} {scope : Scope} {cl : List (Str × Addr)} {pos : Pos} {Q : Value → Shared → Prop} (p : Str → Bool) (f : Str → Int) {D : Ct} {a : Addr}
    (rm : Rm 20 A) (W0 : Wd w s0.heap) (hclos : closureFor scope env = pure cl) (hcell : ∀ y ∈ scope.names, y.2 ≠ .cell) (hkind : scope.kind = .function)
    (hnames : ∀ y ∈ scope.names, y.2 = .local → scope.names.lookup y.1 = some .local) (hx : scope.names.lookup x = some .local) (hxd : (x == ("__debug__" : Str)) = false)
    (hd : PE w env s0.heap iter (· = .ref a)) (t0 : TB w s0.heap a D) (hlen : D.length ≤ 1000)
    (htest0 : ∀ C h' k tk m, k ∈ D.map (·.1) → Up s0.heap h' → h'.Ns C m → m x = some (.str k tk) → PT w (compEnvC scope cl C env) h' ifs (p k))
    (hval0 : ∀ C h' k tk m, k ∈ D.map (·.1) → p k = true → Up s0.heap h' → h'.Ns C m → m x = some (.str k tk) → PE w (compEnvC scope cl C env) h' vx (IntV (f k)))
    (hQ0 : ∀ h₀ d h' tk, Up s0.heap h₀ → Up h₀ h' → @LE.le Nat _ h₀.objs.size d → Dc w h' d (((D.map (·.1)).filter p).map fun k => (k, f k)) → Q (.ref d) { s0 with heap := h', toks := tk })
    (hs : ∀ x, foldedSetIterable iter env x = pure x := by intro _; rfl) :
    wpAny (model pg w) A (eval (.DictComp (.Name x pk) vx [⟨.Name x px, iter, ifs, 0⟩] scope pos) env) Q E s0 := by
  rw [arm_eval_DictComp]
  refine wpAny_comprehension_free (use := none) rfl hs hclos hkind hnames (hd A E _ s0 rm (fun _ _ e => e) fun v0 s ks hv0 => ?_)
  subst hv0
  have up0 := keeps_up ks
  have W := W0.keeps up0
  have t := t0.keeps up0
  have htest : ∀ C h' k tk m, k ∈ D.map (·.1) → Up s.heap h' → h'.Ns C m → m x = some (.str k tk) → PT w (compEnvC scope cl C env) h' ifs (p k) := fun C h' k tk m a b => htest0 C h' k tk m a fun x o e => b x o (up0 x o e)
  have hval : ∀ C h' k tk m, k ∈ D.map (·.1) → p k = true → Up s.heap h' → h'.Ns C m → m x = some (.str k tk) → PE w (compEnvC scope cl C env) h' vx (IntV (f k)) := fun C h' k tk m a a' b => hval0 C h' k tk m a a' fun x o e => b x o (up0 x o e)
  have hQ : ∀ d h' tk, Up s.heap h' → s.heap.objs.size ≤ d → Dc w h' d (((D.map (·.1)).filter p).map fun k => (k, f k)) → Q (.ref d) { s with heap := h', toks := tk } := fun d h' tk b l q => by
    obtain ⟨h₀, t₀, rfl, k₀⟩ := ks
    exact hQ0 h₀ d h' tk k₀ b l q
  obtain ⟨cls, od, kvs, DC, ⟨ep, dl⟩, fa, hod⟩ := id t
  have hk1 : kvs.map (·.1) = D.map (·.1) := fa.keys
  refine dl_pyIter dl DC ?_
  refine wpAny_newObj_type (wpAny_newFunctionEnv hcell (by intro y hy; simp at hy) (fun h₁ hns₁ hsb₁ => ?_) hkind)
  dsimp only at hns₁ hsb₁ ⊢
  generalize hH1 : s.heap.push { cls := .type "dict_keyiterator", data := .fields #[.ref a, .int 0 0, .int kvs.length 0, .int ep 0] } = H1 at hns₁ hsb₁ ⊢
  have hI1 : H1.objs.size = s.heap.objs.size + 1 := by rw [← hH1, Heap.size_push]
  have hit1 : H1.IsKeyIter s.heap.objs.size a 0 kvs.length ep := ⟨_, by rw [← hH1]; exact Heap.get?_push_size _ rfl, rfl, rfl⟩
  have up1 : Up s.heap H1 := fun b o e => by rw [← hH1]; exact Heap.get?_push_of_some _ e
  have hnew : (H1.push { cls := .type "dict", dict := none, data := .dict #[] }).DictOf (strKind pg w) H1.objs.size [] := Heap.DictOf.new H1
  generalize hH2 : H1.push { cls := .type "dict", dict := none, data := .dict #[] } = H2 at hns₁ hsb₁ hnew ⊢
  have hC : H2.objs.size = H1.objs.size + 1 := by rw [← hH2, Heap.size_push]
  have up2 : Up H1 H2 := fun b o e => by rw [← hH2]; exact Heap.get?_push_of_some _ e
  have halt : a < s.heap.objs.size := DL.lt ⟨ep, dl⟩
  have hne : a ≠ s.heap.objs.size := Nat.ne_of_lt halt
  have up21 : ∀ b o, H2.get? b = some o → b ≠ H2.objs.size → h₁.get? b = some o := fun b o e n => hsb₁.extBut b o n (Heap.get?_push_of_some _ e)
  have old : Up H1 h₁ := fun b o e => up21 b o (up2 b o e) (by have hlt : @LT.lt Nat _ b H1.objs.size := Heap.lt_size e; exact neA (by omega))
  have hacc : h₁.DictOf (strKind pg w) H1.objs.size [] := hnew.at fun o e => up21 _ _ e (neA (by omega))
  have Wk := dl_walks (w := w) (A := A) rm.1 (cls := cls) (od := od) (kvs := kvs) (ep := ep) hne
  have hst : (fun i h => h.IsKeyIter s.heap.objs.size a i kvs.length ep ∧ DLe w h cls od a kvs ep) 0 h₁ := ⟨let ⟨o, ho, r⟩ := hit1; ⟨o, old _ _ ho, r⟩, (dl.keeps up1).keeps old⟩
  have key_of : ∀ (i : Nat) (v : Value), (∃ k x tk, kvs[i]? = some (k, x) ∧ v = Value.str k tk) → ∃ k tk, v = Value.str k tk ∧ k ∈ D.map (·.1) ∧ kvs[i]?.map (·.1) = some k := fun i v ⟨k, x, tk, e, ev⟩ =>
    ⟨k, tk, ev, by rw [← hk1]; exact List.mem_map.mpr ⟨_, List.mem_of_getElem? e, rfl⟩, by rw [e]; rfl⟩
  have pq : ∀ k tk, pv p (.str k tk) = p k := fun _ _ => rfl
  have halt' : @LT.lt Nat _ a s.heap.objs.size := halt
  have hDf : H1.objs.size ∉ [s.heap.objs.size, a] := nin2 (by omega) (by omega)
  have hCf : H2.objs.size ∉ [s.heap.objs.size, a] := nin2 (by omega) (by omega)
  have loop : codeAny (model pg w) A (.compLoop (.DictComp (.Name x pk) vx [⟨.Name x px, iter, ifs, 0⟩] scope pos) 0 (.ref s.heap.objs.size) (.ref H1.objs.size) (compEnvC scope cl H2.objs.size env))
      (compPost (model pg w) A E none Q (.ref H1.objs.size) H2.objs.size) { s with heap := h₁, toks := s.toks + ([] : List (Str × Value)).length } := by
    refine codeAny_compLoop_walkD (knd := strKind pg w) (cenv := compEnvC scope cl H2.objs.size env) Wk (pv p) (fun v k => ∃ tk, v = .str k tk) (fun v y => ∃ k tk, v = .str k tk ∧ IntV (f k) y)
      (lookup_relabel_local hx) (by simp [compEnvC, relabel, hkind]) (show H1.objs.size ≠ H2.objs.size by omega) hDf hCf hst hacc hns₁ ?_ ?_ ?_ ?_
      (by rw [fa.length, sizeLine_eq]; omega)
    · intro i v s₂ m₂ hP hn hm hk
      obtain ⟨k, tk, rfl, hmem, _⟩ := key_of i v hP
      refine htest H2.objs.size s₂.heap k tk m₂ hmem (fun b o e => ?_) hn hm A _ _ s₂ rm (fun _ _ e => e) fun s' ks => ⟨rfl, ks⟩
      have hlt : @LT.lt Nat _ b s.heap.objs.size := Heap.lt_size e
      exact hk b o (show b ≠ H2.objs.size from neA (by omega)) (nin1 (by omega)) (neA (by omega)) (old b o (up1 b o e))
    · intro i v s₂ m₂ hP hp hn hm hk
      obtain ⟨k, tk, rfl, hmem, _⟩ := key_of i v hP
      have nmx : Nm (compEnvC scope cl H2.objs.size env) s₂.heap x (.str k tk) := nm_local hkind (lookup_relabel_local hx) hn hm hxd
      exact (nmx _ _) A _ _ s₂ (fun _ _ e => e) ⟨⟨k, strKind_is _ _ _ _, tk, rfl⟩, keeps_refl _⟩
    · intro i v s₂ m₂ hP hp hn hm hk
      obtain ⟨k, tk, rfl, hmem, _⟩ := key_of i v hP
      refine hval H2.objs.size s₂.heap k tk m₂ hmem hp (fun b o e => ?_) hn hm A _ _ s₂ rm (fun _ _ e => e) fun v s' ks hv => ⟨⟨k, tk, rfl, hv⟩, ks⟩
      have hlt : @LT.lt Nat _ b s.heap.objs.size := Heap.lt_size e
      exact hk b o (show b ≠ H2.objs.size from neA (by omega)) (nin1 (by omega)) (neA (by omega)) (old b o (up1 b o e))
    · intro h' tk m' kvs' vs hn ha hlen' hP hF hk
      refine ⟨m', hn, fun h'' hs'' => ?_⟩
      have keep : Up s.heap h'' := fun b o e => by
        have hlt : @LT.lt Nat _ b s.heap.objs.size := Heap.lt_size e
        exact hs''.extBut b o (show b ≠ H2.objs.size from neA (by omega)) (hk b o (show b ≠ H2.objs.size from neA (by omega)) (nin1 (by omega)) (neA (by omega)) (old b o (up1 b o e)))
      have hsm : @LT.lt Nat _ 95 H1.objs.size := by
        have h1 := W.size
        omega
      have hD' : h''.DictOf (strKind pg w) H1.objs.size kvs' := ha.at fun o e => hs''.extBut _ _ (show H1.objs.size ≠ H2.objs.size by omega) e
      refine hQ H1.objs.size h'' tk keep (by omega) ⟨kvs', DL.of_dictOf hsm hD', ?_⟩
      have hvs : ∀ j : Nat, vs[j]?.map kyv = (D.map (·.1))[j]? := fun j => by
        rw [← hk1]
        cases e : vs[j]? with
        | none =>
          have : kvs.length ≤ j := by rw [← hlen']; exact List.getElem?_eq_none_iff.mp e
          rw [List.getElem?_map, List.getElem?_eq_none this]; rfl
        | some v =>
          obtain ⟨k, tk, rfl, _, e2⟩ := key_of j v (hP j v e)
          rw [List.getElem?_map, e2]; rfl
      have hvs' : ∀ v ∈ vs, ∃ k tk, v = .str k tk := fun v hv => by
        obtain ⟨j, hj⟩ := List.getElem?_of_mem hv
        obtain ⟨k, tk, e, _⟩ := key_of j v (hP j v hj)
        exact ⟨k, tk, e⟩
      have hmap : vs.map kyv = D.map (·.1) := List.ext_getElem? fun j => by rw [List.getElem?_map]; exact hvs j
      refine storedAll_is hF _ (List.Nodup.sublist List.filter_sublist t.nodup) ?_ ?_
      · rw [← hmap, List.filter_map, List.length_map]
        refine congrArg List.length (List.filter_congr fun v hv => ?_)
        obtain ⟨k, tk, rfl⟩ := hvs' v hv
        rfl
      · intro i v hi
        have hv := List.mem_of_getElem? hi
        obtain ⟨k, tk, rfl⟩ := hvs' v (List.mem_filter.mp hv).1
        refine ⟨k, tk, ?_, rfl⟩
        rw [← hmap, List.filter_map, List.getElem?_map]
        have : vs.filter (p ∘ kyv) = vs.filter (pv p) := List.filter_congr fun v hv => by
          obtain ⟨k, tk, rfl⟩ := hvs' v hv
          rfl
        rw [show (vs.filter (p ∘ kyv)) = _ from this, hi]; rfl
  exact codeAny_compStart_dict loop (wpAny_pyIter_keyiter hst.1 loop)
end

section
variable {w : World} {A : Around} {E : Value → Shared → Prop} {s : Shared} {env : Env} {L : Nat} {m : Str → Option Value} {cm : Nat → Option Value}
theorem pair_lc {a b : Expr} {x y : Str} {p1 p2 p3 p4 p5 : Pos} {c1 c2 : Nat} {Q : Flow → Shared → Prop} (kF : env.scope.kind = .function) (hL : env.locals = L) (kx : env.kindOf x = some .local) (ky : env.kindOf y = some .local) (hh : A.handled = none)
    (hw : swappedStores [.Tuple [.Name x p1, .Name y p2] c1 p3] (.Tuple [a, b] c2 p4) env = pure (some [x, y]))
    (h : wpAny (model pg w) A (eval a env) (fun v s₁ => wpAny (model pg w) A (eval b env) (fun v' s₂ => ∃ m, LC L s₂.heap m cm ∧ ∀ h' tk, Ob L s₂.heap h' → LC L h' (fun z => if z = x then some v else if z = y then some v' else m z) cm → Q .next { s₂ with heap := h', toks := tk }) E s₁) E s)
    (hs : swapsWithSole [.Tuple [.Name x p1, .Name y p2] c1 p3] (.Tuple [a, b] c2 p4) p5.line env = pure false := by rfl)
    (ha : starEach [a, b] env = [(false, eval a env), (false, eval b env)] := by rfl) :
    wpAny (model pg w) A (exec (.Assign [.Tuple [.Name x p1, .Name y p2] c1 p3] (.Tuple [a, b] c2 p4) p5) env) Q E s := by
  subst hL
  refine pair_set kF kx ky hh hw (wpAny_mono h (fun v s₁ h₁ => wpAny_mono h₁ (fun v' s₂ h₂ => ?_) fun _ _ e => e) fun _ _ e => e) hs ha
  obtain ⟨m, c, hQ⟩ := h₂
  refine ⟨m, c.ns, fun h' tk hk hn => hQ h' tk hk ⟨hn, fun j h1 h2 => ?_⟩⟩
  obtain ⟨o, e, r⟩ := c.cell j h1 h2
  exact ⟨o, hk _ _ (neA (lne h1)) e, r⟩

theorem asg_sub {o i : Expr} {pos : Pos} {v : Value} {Q : Unit → Shared → Prop} (hi : Idx i)
    (h : wpAny (model pg w) A (eval o env) (fun ov s₁ => wpAny (model pg w) A (eval i env) (fun iv s₂ => wpAny (model pg w) A (setItem ov iv v) Q E s₂) E s₁) E s) :
    wpAny (model pg w) A (assign (.Subscript o i pos) env v) Q E s := by
  rw [arm_assign_Subscript]
  refine wpAny_bind (wpAny_holding (wpAny_mono h (fun ov s₁ h₁ => wpAny_bind (wpAny_holding (wpAny_mono h₁ (fun iv s₂ h₂ => wpAny_bind (wpAny_standAt (wpAny_bind (wpAny_holding (wpAny_mono h₂ (fun _ s₃ h₃ => ?_) fun _ _ e => e)))) ) fun _ _ e => e))) fun _ _ e => e))
  exact wpAny_release h₃

theorem el_same {h : Heap} {Sl Mo : Addr} {k : Nat} {t : Tok} {p p1 p2 p3 p4 p5 p6 p7 : Pos} {n : Str} (rm : Rm 64 A) (hk : k < 3) (W : Wd w s.heap) (sm : Sm w L s.heap Sl Mo) (nS : Nm env s.heap "slots" (.ref Sl)) (nM : Nm env s.heap "models" (.ref Mo)) (nk : Nm env s.heap n (.int (k : Int) t)) (nF : Nm env s.heap "_law_same" (.ref 90)) :
    wpAny (model pg w) A (eval (.Call (.Name "_law_same" p) [.Subscript (.Name "slots" p1) (.Name n p2) p3, .Subscript (.Name "models" p4) (.Name n p5) p6] [] p7) env) (fun y s₄ => y = .bool true ∧ Keeps s s₄) E s := by
  obtain ⟨_, _, its, jts, hits, hjts, s1, s2, hall⟩ := sm
  obtain ⟨x, y, D, D', e1, e2, p0⟩ := hall k hk
  refine e_call2 W.K (by kernel_rfl) nF ?_ rfl rfl
  refine (pe_at (w := w) (k := k) (P := fun v => v = .ref x) (.name _ _) nS hits (by omega) (pe_nint nk) ⟨_, e1, rfl⟩) _ _ _ _ (rm.le (by decide)) (fun _ _ e => e) fun v' s' ks' hv' => ?_
  refine (pe_at (w := w) (k := k) (P := fun v => v = .ref y) (.name _ _) nM hjts (by omega) (pe_nint nk) ⟨_, e2, rfl⟩) _ _ _ _ (rm.le (by decide)) (keeps_up ks') fun v'' s'' ks'' hv'' => ?_
  subst hv' hv''
  obtain ⟨ha, ta, rfl, ka⟩ := keeps_trans ks' ks''
  refine ⟨(W.keeps ka).K, ?_⟩
  have inn' : In D' := fun x hx => p0.inn x (by rw [p0.same]; exact hx)
  exact call_same (s := { s with heap := ha, toks := ta }) (rm.le (by decide)) (W.keeps ka) (p0.cr.keeps ka) (p0.dc.keeps ka) p0.same (by have := in_len p0.dc.nodup inn'; omega) fun hc tc kc => ⟨rfl, hc, tc, rfl, fun b o e => kc b o (ka b o e)⟩

theorem el_same_copy {h : Heap} {Sl Mo : Addr} {k : Nat} {t : Tok} {p p1 p2 p3 p4 p5 p6 p7 ap cp : Pos} {n : Str} (rm : Rm 64 A) (hk : k < 3) (W : Wd w s.heap) (sm : Sm w L s.heap Sl Mo) (nS : Nm env s.heap "slots" (.ref Sl)) (nM : Nm env s.heap "models" (.ref Mo)) (nk : Nm env s.heap n (.int (k : Int) t)) (nF : Nm env s.heap "_law_same" (.ref 90))
    (hline : (ap.endLine == cp.line) = true := by rfl) :
    wpAny (model pg w) A (eval (.Call (.Name "_law_same" p) [.Call (.Attribute (.Subscript (.Name "slots" p1) (.Name n p2) p3) "copy" ap) [] [] cp, .Subscript (.Name "models" p4) (.Name n p5) p6] [] p7) env) (fun y s₄ => y = .bool true ∧ Keeps s s₄) E s := by
  obtain ⟨_, _, its, jts, hits, hjts, s1, s2, hall⟩ := sm
  obtain ⟨x, y, D, D', e1, e2, p0⟩ := hall k hk
  refine e_call2 W.K (by kernel_rfl) nF ?_ rfl rfl
  refine e_copy (hline := hline) (rm.le (by decide)) ?_
  refine (pe_at (w := w) (k := k) (P := fun v => v = .ref x) (.name _ _) nS hits (by omega) (pe_nint nk) ⟨_, e1, rfl⟩) _ _ _ _ (rm.le (by decide)) (fun _ _ e => e) fun v' s' ks' hv' => ?_
  obtain ⟨ha, ta, rfl, ka⟩ := ks'
  refine ⟨x, D, hv', p0.cr.keeps ka, W.keeps ka, Nat.le_trans (in_len p0.cr.nodup p0.inn) (by decide), fun z hb tb kb lb cb => ?_⟩
  have kab : Up s.heap hb := fun b o e => kb b o (ka b o e)
  refine (pe_at (w := w) (k := k) (P := fun v => v = .ref y) (.name _ _) nM hjts (by omega) (pe_nint nk) ⟨_, e2, rfl⟩) _ _ _ _ (rm.le (by decide)) kab fun v'' s'' ks'' hv'' => ?_
  subst hv''
  obtain ⟨hd, td, rfl, kd⟩ := ks''
  have kad : Up s.heap hd := fun b o e => kd b o (kab b o e)
  refine ⟨(W.keeps kad).K, ?_⟩
  have inn' : In D' := fun x hx => p0.inn x (by rw [p0.same]; exact hx)
  exact call_same (s := { s with heap := hd, toks := td }) (rm.le (by decide)) (W.keeps kad) (cb.keeps kd) (p0.dc.keeps kad) p0.same (by have := in_len p0.dc.nodup inn'; omega) fun hc tc kc => ⟨rfl, hc, tc, rfl, fun b o e => kc b o (kad b o e)⟩
end
end Mine
end

section
open PySem PySem.W PyProof.Rows PySem.Calls Builtin
set_option linter.unusedVariables false
namespace Mine
set_option maxRecDepth 100000
set_option maxHeartbeats 4000000

def Lo (L : Nat) (h h' : Heap) : Prop := ∀ b o, @LT.lt Nat _ b L → h.get? b = some o → h'.get? b = some o
def NotD (h : Heap) (I : Addr) : Prop := ∃ o, h.get? I = some o ∧ ∀ es ep, o.data ≠ .dict es ep
theorem fmodN (z : Int) (n : Nat) (hn : 0 < n) : ∃ k : Nat, k < n ∧ z.fmod (n : Int) = (k : Int) := by
  have h1 := Int.fmod_nonneg_of_pos z (show (0 : Int) < n by omega)
  have h2 := Int.fmod_lt_of_pos z (show (0 : Int) < n by omega)
  exact ⟨(z.fmod n).toNat, by omega, by omega⟩
structure SmF (w : World) (L : Nat) (h : Heap) (Sl Mo : Addr) (its jts : Array Value) : Prop where
  o1 : @LT.lt Nat _ (L + 6) Sl
  o2 : @LT.lt Nat _ (L + 6) Mo
  l1 : h.IsList Sl its
  l2 : h.IsList Mo jts
  s1 : its.size = 3
  s2 : jts.size = 3
  all : ∀ i : Nat, i < 3 → ∃ x y D D', its[i]? = some (.ref x) ∧ jts[i]? = some (.ref y) ∧ Pr w L h x y D D'
section
variable {w : World} {L : Nat} {h h' : Heap} {Sl Mo : Addr} {its jts : Array Value}
theorem SmF.sm (p : SmF w L h Sl Mo its jts) : Sm w L h Sl Mo := ⟨p.o1, p.o2, its, jts, p.l1, p.l2, p.s1, p.s2, p.all⟩
theorem Sm.f (p : Sm w L h Sl Mo) : ∃ its jts, SmF w L h Sl Mo its jts := let ⟨a, b, its, jts, c, d, e, f, g⟩ := p; ⟨its, jts, a, b, c, d, e, f, g⟩
theorem SmF.keeps (p : SmF w L h Sl Mo its jts) (k : Up h h') : SmF w L h' Sl Mo its jts := ⟨p.o1, p.o2, isList_at p.l1 (k _), isList_at p.l2 (k _), p.s1, p.s2, fun i hi => let ⟨x, y, D, D', u, v, q⟩ := p.all i hi; ⟨x, y, D, D', u, v, q.keeps k⟩⟩
theorem SmF.fx {m : Str → Option Value} {cm : Nat → Option Value} (p : SmF w L h Sl Mo its jts) (l : LC L h m cm) (hv : ∃ n v, m n = some v) (f : Fx L h h') : SmF w L h' Sl Mo its jts :=
  ⟨p.o1, p.o2, isList_at p.l1 fun o e => f _ o (.inr p.o1) e, isList_at p.l2 fun o e => f _ o (.inr p.o2) e, p.s1, p.s2, fun i hi => let ⟨x, y, D, D', u, v, q⟩ := p.all i hi; ⟨x, y, D, D', u, v, let ⟨n, v, e⟩ := hv; q.fx l e f⟩⟩
end
/-- a pair stays when two lists and nothing else is written -/
theorem pr_lists {w : World} {L : Nat} {h h' : Heap} {x y a : Addr} {its : Array Value} {D D' : Ct} (p : Pr w L h x y D D') (l : h.IsList a its) (k : Heap.SameBut a h h') : Pr w L h' x y D D' := by
  obtain ⟨o, ho, _, _, hd⟩ := l
  have ne : ∀ b o', h.get? b = some o' → (∃ es ep, o'.data = .dict es ep) → b ≠ a := by
    rintro b o' e ⟨es, ep, d⟩ z
    rw [z, ho] at e
    cases e
    rw [hd] at d; cases d
  refine ⟨?_, p.dc.low fun o e => ?_, p.same, p.inn, p.ox, p.oy⟩
  · obtain ⟨dx, hc⟩ := p.cr.crd
    refine (hc.at (h' := h') fun b o hb e => ?_).cr
    have hb' : b ≠ a := by
      obtain ⟨kvs, ⟨ep, nm, es, e', _⟩, _, ed⟩ := hc
      rcases hb with rfl | rfl
      · exact ne _ _ e' ⟨es, ep, rfl⟩
      · exact ne _ _ ed ⟨_, _, rfl⟩
    exact (k.2 b hb').trans e
  · obtain ⟨kvs, ⟨ep, nm, es, e', _⟩, _⟩ := p.dc
    exact (k.2 y (ne _ _ e' ⟨es, ep, rfl⟩)).trans e
theorem pr_but {w : World} {L : Nat} {h h' : Heap} {x y I : Addr} {D D' : Ct} (p : Pr w L h x y D D') (l : NotD h I) (k : ∀ b o, b ≠ I → h.get? b = some o → h'.get? b = some o) : Pr w L h' x y D D' := by
  obtain ⟨o, ho, hd⟩ := l
  have ne : ∀ b o', h.get? b = some o' → (∃ es ep, o'.data = .dict es ep) → b ≠ I := by
    rintro b o' e ⟨es, ep, d⟩ z
    rw [z, ho] at e
    cases e
    exact hd _ _ d
  refine ⟨?_, p.dc.low fun o e => ?_, p.same, p.inn, p.ox, p.oy⟩
  · obtain ⟨dx, hc⟩ := p.cr.crd
    refine (hc.at (h' := h') fun b o hb e => ?_).cr
    have hb' : b ≠ I := by
      obtain ⟨kvs, ⟨ep, nm, es, e', _⟩, _, ed⟩ := hc
      rcases hb with rfl | rfl
      · exact ne _ _ e' ⟨es, ep, rfl⟩
      · exact ne _ _ ed ⟨_, _, rfl⟩
    exact k b o hb' e
  · obtain ⟨kvs, ⟨ep, nm, es, e', _⟩, _⟩ := p.dc
    exact k y o (ne _ _ e' ⟨es, ep, rfl⟩) e

section
variable {w : World} {A : Around} {E : Value → Shared → Prop} {s : Shared} {env : Env}
theorem for_core2 {target : Expr} {body : List Stmt} {R : Result → Shared → Prop} {I : Addr} {fp wI wr : List Addr} {n : Nat} {P : Nat → Value → Prop} {St : Nat → Heap → Prop} (Wk : Walks pg w A I fp wI n P St)
    (Lv : Heap → Prop) (hLv : ∀ i h, St i h → Lv h) (Inv : Nat → Heap → Prop) (hst : St 0 s.heap) (h0 : Inv 0 s.heap) (hfp : ∀ b ∈ fp, b ∉ wr)
    (stab : ∀ i h h', Lv h → Inv i h → (∀ b o, b ∉ wI → h.get? b = some o → h'.get? b = some o) → Inv i h')
    (turn : ∀ i v h tk E', i < n → P i v → Inv i h →
      wpAny (model pg w) A (assign target env v) (fun _ s₂ => wpAny (model pg w) A (execs body env) (fun fl s₃ => fl = .next ∧ ∃ h₃ tk₃, s₃ = { s with heap := h₃, toks := tk₃ } ∧ Inv (i + 1) h₃ ∧
        (∀ b o, b ∉ wr → h.get? b = some o → h₃.get? b = some o)) E' s₂) E' { s with heap := h, toks := tk })
    (hR : ∀ h tk, Inv n h → R (.ok .next) { s with heap := h, toks := tk })
    (ht : ∀ v, letOwnedTupleGo target (.ref I) v = pure () := by intro _; rfl) :
    codeAny (model pg w) A (.forLoop target (.ref I) body [] env) R s := by
  refine codeAny_forLoop (fun k s' => ∃ i h tk, s' = { s with heap := h, toks := tk } ∧ i ≤ n ∧ k = n - i ∧ Inv i h ∧ St i h) ?_ n
    ⟨0, s.heap, s.toks, rfl, Nat.zero_le _, rfl, h0, hst⟩ ht
  rintro k s' ⟨i, h, tk, rfl, hi, rfl, hinv, hs⟩
  by_cases hlt : i < n
  · refine Wk.item i _ _ _ hlt hs fun v h₁ tk₁ hP hs₁ hk₁ => ?_
    refine wpAny_mono (turn i v h₁ tk₁ _ hlt hP (stab i _ _ (hLv _ _ hs) hinv hk₁)) (fun _ s₂ h₂ => wpAny_mono h₂ (fun fl s₃ h₃ => ?_) fun _ _ e => e) fun _ _ e => e
    obtain ⟨rfl, h₃, tk₃, rfl, hinv₃, hk₃⟩ := h₃
    exact ⟨n - (i + 1), by omega, i + 1, h₃, tk₃, rfl, hlt, rfl, hinv₃, Wk.frame _ _ _ hs₁ fun b hb o e => hk₃ b o (hfp b hb) e⟩
  · have hin : i = n := by omega
    subst hin
    refine Wk.done _ _ _ hs fun h₁ tk₁ hk₁ => ?_
    exact wpAny_execs_nil (hR h₁ tk₁ (stab _ _ _ (hLv _ _ hs) hinv hk₁))

/-- a for over a slice of a list of ints -/
theorem it_slice2 {d : Str} {p p2 p3 : Pos} {lower upper : Option Expr} {l : Addr} {n : Nat} {lo hi : Option Int} {Q : Value → Shared → Prop} (hh : A.handled = none) (nd : Nm env s.heap d (.ref l)) (x : LL s.heap l n AnyInt) (hn : n ≤ 1000)
    (hlo : ∀ s' Q, Keeps s s' → (∀ v s'', Keeps s' s'' → IsPart v lo → Q v s'') → wpAny (model pg w) A (evalPart lower env) Q E s')
    (hhi : ∀ s' Q, Keeps s s' → (∀ v s'', Keeps s' s'' → IsPart v hi → Q v s'') → wpAny (model pg w) A (evalPart upper env) Q E s')
    (hQ : ∀ n I fp h' tk St, Up s.heap h' → s.heap.get? I = none → (∀ b ∈ fp, s.heap.get? b = none) → Walks pg w A I fp [I] n AnyInt St → (∀ i h, St i h → NotD h I) → St 0 h' → Q (.ref I) { s with heap := h', toks := tk }) :
    wpAny (model pg w) A (eval (.Subscript (.Name d p) (.Slice lower upper none p2) p3) env) (fun xv s₁ => wpAny (model pg w) A (pyIter xv) Q E s₁) E s := by
  obtain ⟨its, hl, hn', hp⟩ := x
  refine wpAny_Subscript_list_slice ((nd _ _) _ _ _ _ (fun _ _ e => e) (hlo s _ (keeps_refl s) fun vl s₁ k₁ pl => hhi s₁ _ k₁ fun vu s₂ k₂ pu => ?_))
  obtain ⟨h₂, t₂, rfl, k⟩ := keeps_trans k₁ k₂
  refine ⟨l, its, lo, hi, rfl, isList_at hl (k l), by rw [hn', sizeLine_eq]; omega, pl, pu, ?_⟩
  have hnew : ((h₂.push { cls := .type "slice", data := .fields #[vl, vu, .none] }).push { cls := .type "list", data := .seq (slicePick its lo hi none) }).IsList (h₂.objs.size + 1) (slicePick its lo hi none) := by
    have := Heap.size_push h₂ { cls := .type "slice", data := .fields #[vl, vu, .none] }
    rw [← this]; exact ⟨_, Heap.get?_push_size _ rfl, rfl, _, rfl⟩
  have hlt : @LT.lt Nat _ (h₂.objs.size + 1) ((h₂.push { cls := .type "slice", data := .fields #[vl, vu, .none] }).push { cls := .type "list", data := .seq (slicePick its lo hi none) }).objs.size := by simp only [Heap.size_push]; exact Nat.lt_succ_self _
  have up : Up s.heap ((h₂.push { cls := .type "slice", data := .fields #[vl, vu, .none] }).push { cls := .type "list", data := .seq (slicePick its lo hi none) }) := fun b o e => Heap.get?_push_of_some _ (Heap.get?_push_of_some _ (k b o e))
  have hI := none_ge up (Nat.le_refl _)
  refine wpAny_pyIter_list hnew (hQ _ _ _ _ _ _ (fun b o e => Heap.get?_push_of_some _ (up b o e)) hI ?_ (walks_mono_P (Walks.list hh _ _ (neA (Nat.ne_of_lt hlt)) _) rfl fun i v _ p => let ⟨j, e'⟩ := slice_mem p; hp j v e') ?_ ⟨⟨_, Heap.get?_push_size _ rfl, rfl, rfl⟩, hnew.push _⟩)
  · intro b hb
    rcases List.mem_cons.mp hb with rfl | hb
    · exact hI
    · rcases List.mem_cons.mp hb with rfl | hb
      · exact none_ge k (Nat.le_succ _)
      · cases hb
  · rintro i h ⟨⟨o, e, _, hd⟩, _⟩
    exact ⟨o, e, fun es ep q => by rw [hd] at q; cases q⟩
end
end Mine
end

section
open PySem PySem.W PyProof.Rows PySem.Calls Builtin
set_option linter.unusedVariables false
namespace Mine
set_option maxRecDepth 100000
set_option maxHeartbeats 4000000

theorem lo_trans {L : Nat} {h h' h'' : Heap} (a : Lo L h h') (b : Lo L h' h'') : Lo L h h'' := fun x o p e => b x o p (a x o p e)
theorem Fx.lo {L : Nat} {h h' : Heap} (f : Fx L h h') : Lo L h h' := fun b o hb e => f b o (.inl hb) e
theorem cupd (cm : Nat → Option Value) (v v' : Option Value) : (fun j => if j = 6 then v else (fun j => if j = 6 then v' else cm j) j) = (fun j => if j = 6 then v else cm j) := by
  funext j; by_cases e : j = 6 <;> simp [e]

/-- what the rest of the turn has at hand -/
structure Mid (w : World) (L : Nat) (s₀ h₀ h : Heap) (Sl Mo : Addr) (its jts : Array Value) (m : Str → Option Value) (cm : Nat → Option Value) (x1 y1 x2 y2 : Addr) (D1 E1 D2 E2 : Ct) (kk jj : Nat) (z : Int) : Prop where
  lc : LC L h m cm
  kind : ∃ t, m "kind" = some (.int (kk : Int) t)
  j : ∃ t, m "j" = some (.int (jj : Int) t)
  num : ∃ t, m "number" = some (.int z t)
  one : m "one" = some (.ref x1)
  oth : m "other" = some (.ref x2)
  sm : SmF w L h Sl Mo its jts
  p1 : Pr w L h x1 y1 D1 E1
  p2 : Pr w L h x2 y2 D2 E2
  lo : Lo L s₀ h
  wf : ∀ b o, b ∉ [(L : Addr), ((L + 6 : Nat) : Addr), Sl, Mo] → h₀.get? b = some o → h.get? b = some o
section
variable {w : World} {L : Nat} {s₀ h₀ h h' : Heap} {Sl Mo : Addr} {its jts : Array Value} {m m' : Str → Option Value} {cm : Nat → Option Value} {x1 y1 x2 y2 : Addr} {D1 E1 D2 E2 : Ct} {kk jj : Nat} {z : Int}
theorem Mid.ne (q : Mid w L s₀ h₀ h Sl Mo its jts m cm x1 y1 x2 y2 D1 E1 D2 E2 kk jj z) : ∃ n v, m n = some v := ⟨_, _, q.one⟩
theorem Mid.keeps (q : Mid w L s₀ h₀ h Sl Mo its jts m cm x1 y1 x2 y2 D1 E1 D2 E2 kk jj z) (k : Up h h') : Mid w L s₀ h₀ h' Sl Mo its jts m cm x1 y1 x2 y2 D1 E1 D2 E2 kk jj z :=
  ⟨q.lc.keeps k, q.kind, q.j, q.num, q.one, q.oth, q.sm.keeps k, q.p1.keeps k, q.p2.keeps k, lo_trans q.lo fun b o _ e => k b o e, fun b o hb e => k b o (q.wf b o hb e)⟩
theorem Mid.set (q : Mid w L s₀ h₀ h Sl Mo its jts m cm x1 y1 x2 y2 D1 E1 D2 E2 kk jj z) (c : LC L h' m' cm) (f : Ob L h h') (e : ∀ n : Str, n = "kind" ∨ n = "j" ∨ n = "number" ∨ n = "one" ∨ n = "other" → m' n = m n) : Mid w L s₀ h₀ h' Sl Mo its jts m' cm x1 y1 x2 y2 D1 E1 D2 E2 kk jj z := by
  have k1 := e "kind" (by simp)
  have k2 := e "j" (by simp)
  have k3 := e "number" (by simp)
  have k4 := e "one" (by simp)
  have k5 := e "other" (by simp)
  refine ⟨c, by rw [k1]; exact q.kind, by rw [k2]; exact q.j, by rw [k3]; exact q.num, by rw [k4]; exact q.one, by rw [k5]; exact q.oth, q.sm.fx q.lc q.ne f.fx, ?_, ?_, lo_trans q.lo f.fx.lo, fun b o hb e => f b o (fun z => hb (by rw [z]; exact .head _)) (q.wf b o hb e)⟩
  · exact q.p1.fx q.lc q.one f.fx
  · exact q.p2.fx q.lc q.one f.fx
end

theorem made_off {x y : Str} (hx : x = "made" ∨ x = "due" ∨ x = "key" ∨ x = "worth") (hy : y = "made" ∨ y = "due" ∨ y = "key" ∨ y = "worth") {m : Str → Option Value} {v v' : Option Value} : ∀ n : Str, n = "kind" ∨ n = "j" ∨ n = "number" ∨ n = "one" ∨ n = "other" → (fun z => if z = x then v else if z = y then v' else m z) n = m n := by
  intro n hn
  have h1 : n ≠ x := by rcases hn with rfl | rfl | rfl | rfl | rfl <;> rcases hx with rfl | rfl | rfl | rfl <;> decide
  have h2 : n ≠ y := by rcases hn with rfl | rfl | rfl | rfl | rfl <;> rcases hy with rfl | rfl | rfl | rfl <;> decide
  show (if n = x then v else if n = y then v' else m n) = m n
  rw [if_neg h1, if_neg h2]
end Mine
end

section
open PySem PySem.W PyProof.Rows PySem.Calls Builtin
set_option linter.unusedVariables false
namespace Mine
set_option maxRecDepth 100000
set_option maxHeartbeats 4000000

noncomputable def lpBd (w : World) : List Stmt := match (lawBd w).drop 11 with | (.For _ _ b _ _) :: _ => b | _ => []
section
variable {w : World} {env : Env} {h h' : Heap} {pos : Pos}
theorem pe_subG {value : Expr} {kn : Str} {p2 : Pos} {a : Addr} {k : Str} {tk : Tok} {D : Ct} {i : Int} (nd : PE w env h value (· = .ref a)) (nk : Nm env h kn (.str k tk)) (t : TB w h a D) (e : lk D k = some i) :
    PE w env h (.Subscript value (.Name kn p2) pos) (IntV i) := fun A E Q s rm up q => by
  rw [arm_eval_Subscript]
  refine wpAny_bind (nd A _ _ s rm up fun o s₁ ks ho => wpAny_bind (wpAny_holding ((nk _ _) A _ _ s₁ (fun b o e => keeps_up ks _ _ (up b o e)) (wpAny_bind (wpAny_standAt ?_)))))
  subst ho
  obtain ⟨cls, od, kvs, Dc, dl, fa, _⟩ := t.keeps fun b o e => keeps_up ks _ _ (up b o e)
  obtain ⟨t, hv⟩ := fa.hit e
  refine wpAny_bind ?_
  unfold getitemInPython
  refine wpAny_bind ((dl.special (Dc.fgets _)).here (wpAny_pure ?_))
  show wpAny _ _ (operate [.ref a, .str k tk] (getItem (.ref a) (.str k tk)) >>= _) _ _ _
  exact wpAny_bind (wpAny_operating (dl_getItem dl Dc (strKind_is _ _ _ _) hv (wpAny_bind (wpAny_letTemporaryGo (wpAny_pure (q _ _ (keeps_trans ks (keeps_tok _ _)) ⟨t, rfl⟩))))))
end
theorem fmod4 : ∀ k : Nat, k < 8 → ((k : Int)).fmod 4 = ((k % 4 : Nat) : Int) := by decide

theorem dx_out {w : World} {L : Nat} {h : Heap} {x dx : Addr} {D : Ct} {m : Str → Option Value} {cm : Nat → Option Value} {n : Str} {v : Value} (hc : Crd w h x dx D) (l : LC L h m cm) (hv : m n = some v) : Out L dx := by
  obtain ⟨_, _, _, ed⟩ := hc
  have h0 : ¬ @Eq Nat dx L := fun z => by
    obtain ⟨o, es, ep, e', hd, _, hf⟩ := l.ns
    rw [show dx = L from z] at ed
    rw [ed] at e'
    cases e'; cases hd
    have := hf n
    rw [hv] at this
    cases this
  have hj : ∀ j, 1 ≤ j → j ≤ 6 → ¬ @Eq Nat dx (L + j) := fun j h1 h2 z => by
    obtain ⟨o, q, r⟩ := l.cell j h1 h2
    rw [← show dx = (L + j : Nat) from z, ed] at q
    cases q
    simp [emptyDict] at r
  have h1 := hj 1 (by decide) (by decide)
  have h2 := hj 2 (by decide) (by decide)
  have h3 := hj 3 (by decide) (by decide)
  have h4 := hj 4 (by decide) (by decide)
  have h5 := hj 5 (by decide) (by decide)
  have h6 := hj 6 (by decide) (by decide)
  show @LT.lt Nat _ dx L ∨ @LT.lt Nat _ (L + 6) dx
  omega
theorem Crd.up {w : World} {h h' : Heap} {a dx : Addr} {D : Ct} (x : Crd w h a dx D) (k : Up h h') : Crd w h' a dx D := x.at fun b o _ e => k b o e
theorem set_crd {w : World} {A : Around} {E : Value → Shared → Prop} {s : Shared} {d dx : Addr} {D : Ct} {k : Str} {tk t : Tok} {i : Int} {Q : Unit → Shared → Prop} (W : Wd w s.heap) (x : Crd w s.heap d dx D) (hlen : D.length ≤ 100000)
    (hQ : ∀ h' tk', Crd w h' d dx (st D k i) → Heap.SameBut d s.heap h' → Q () { s with heap := h', toks := tk' }) : wpAny (model pg w) A (setItem (.ref d) (.str k tk) (.int i t)) Q E s := by
  have hne := x.lt.2.2
  obtain ⟨kvs, dl, fa, ed⟩ := x
  refine dl_setItem dl (dcls_ctr W.K) (strKind_is _ _ _ _) (fun h₄ x₄ s₄ => hQ h₄ _ ⟨_, x₄, fa.put k i t, (s₄.2 _ (Ne.symm hne)).trans ed⟩ s₄) ?_
  have := fa.length
  rw [sizeLine_eq]; omega
theorem LC.but {L : Nat} {h h' : Heap} {m : Str → Option Value} {cm : Nat → Option Value} {a : Addr} (c : LC L h m cm) (o : Out L a) (k : Heap.SameBut a h h') : LC L h' m cm :=
  ⟨c.ns.sameBut k (Ne.symm (o.ne 0 (by decide))), fun j h1 h2 => let ⟨b, e, r⟩ := c.cell j h1 h2; ⟨b, (k.2 _ (Ne.symm (o.ne j h2))).trans e, r⟩⟩

theorem tA {w : World} {A : Around} {E : Value → Shared → Prop} {s : Shared} {env : Env} {L : Nat} {a : Addr} {cd : Value} {Q : Flow → Shared → Prop} {s₀ h₀ : Heap} {Sl Mo : Addr} {its jts : Array Value} {m : Str → Option Value} {cm : Nat → Option Value} {x1 y1 x2 y2 : Addr} {D1 E1 D2 E2 : Ct} {kk ii jj : Nat} {z : Int}
    (hE : lawEnv w L a cd = env) (rm : Rm 90 A) (W : ∀ h, Lo L s₀ h → Wd w h) (q : Mid w L s₀ h₀ s.heap Sl Mo its jts m cm x1 y1 x2 y2 D1 E1 D2 E2 kk jj z) (h4 : cm 4 = some (.ref Mo)) (h6 : ∃ t, cm 6 = some (.int (ii : Int) t)) (hkk : kk < 10) (hii : ii < 3) (hjj : jj < 3)
    (e1 : jts[ii]? = some (.ref y1)) (e2 : jts[jj]? = some (.ref y2))
    (hQ : ∀ m' mk du D D' h' tk, Mid w L s₀ h₀ h' Sl Mo its jts m' cm x1 y1 x2 y2 D1 E1 D2 E2 kk jj z → m' "made" = some (.ref mk) → m' "due" = some (.ref du) → Pr w L h' mk du D D' → wpAny (model pg w) A (execs ((lpBd w).drop 3) env) Q E { s with heap := h', toks := tk }) :
    wpAny (model pg w) A (execs ((lpBd w).drop 2) env) Q E s := by
  have hL : env.locals = L := by rw [← hE]; rfl
  have kF : env.scope.kind = .function := by rw [← hE]; kernel_rfl
  unfold lpBd lawBd at hQ ⊢
  rw [show (KH w).lookup 95 = some _ from rfl] at hQ ⊢
  dsimp only [List.drop] at hQ ⊢
  have kk' : env.kindOf "kind" = some .local := by rw [← hE]; kernel_rfl
  have ko : env.kindOf "one" = some .local := by rw [← hE]; kernel_rfl
  have kt : env.kindOf "other" = some .local := by rw [← hE]; kernel_rfl
  have kj : env.kindOf "j" = some .local := by rw [← hE]; kernel_rfl
  have kn : env.kindOf "number" = some .local := by rw [← hE]; kernel_rfl
  have kmd : env.kindOf "made" = some .local := by rw [← hE]; kernel_rfl
  have kdu : env.kindOf "due" = some .local := by rw [← hE]; kernel_rfl
  have kke : env.kindOf "key" = some .local := by rw [← hE]; kernel_rfl
  have kwo : env.kindOf "worth" = some .local := by rw [← hE]; kernel_rfl
  have km : env.kindOf "models" = some .cell := by rw [← hE]; kernel_rfl
  have cM : env.cells.lookup ("models" : Str) = some (L + 4) := by rw [← hE]; kernel_rfl
  have ki : env.kindOf "i" = some .cell := by rw [← hE]; kernel_rfl
  have cI : env.cells.lookup ("i" : Str) = some (L + 6) := by rw [← hE]; kernel_rfl
  obtain ⟨t6, h6⟩ := h6
  obtain ⟨tk, qk⟩ := q.kind
  obtain ⟨tj, qj⟩ := q.j
  obtain ⟨tn, qn⟩ := q.num
  have W₀ := W _ q.lo
  have nK : Nm env s.heap "kind" (.int (kk : Int) tk) := nm_l kF hL kk' q.lc qk
  have nJ : Nm env s.heap "j" (.int (jj : Int) tj) := nm_l kF hL kj q.lc qj
  have nO : Nm env s.heap "one" (.ref x1) := nm_l kF hL ko q.lc q.one
  have nT : Nm env s.heap "other" (.ref x2) := nm_l kF hL kt q.lc q.oth
  have nM : Nm env s.heap "models" (.ref Mo) := nm_c 4 (by decide) (by decide) kF km cM q.lc h4
  have nI : Nm env s.heap "i" (.int (ii : Int) t6) := nm_c 6 (by decide) (by decide) kF ki cI q.lc h6
  have nDo : Nm env s.heap "_law_do" (.ref 85) := nm_global W₀ kF (by rw [← hE]; kernel_rfl) (by rw [← hE]; kernel_rfl) (by kernel_rfl)
  have nDe : Nm env s.heap "_law_deed" (.ref 78) := nm_global W₀ kF (by rw [← hE]; kernel_rfl) (by rw [← hE]; kernel_rfl) (by kernel_rfl)
  have inE1 : In E1 := fun x hx => q.p1.inn x (by rw [q.p1.same]; exact hx)
  have l1 := in_len q.p1.cr.nodup q.p1.inn
  have l2 := in_len q.p2.cr.nodup q.p2.inn
  have l1' := in_len q.p1.dc.nodup inE1
  have lt6 : ∀ {h}, Up s.heap h → @LT.lt Nat _ (L + 6) h.objs.size := fun k => (q.lc.keeps k).lt 6 (by decide)
  refine wpAny_execs_cons (wpAny_If ((pb_lt (pe_nint nK) pe_int) _ _ _ _ (rm.le (by decide)) (fun _ _ e => e) fun s' ks => ?_))
  obtain ⟨h₁, t₁, rfl, k₁⟩ := ks
  cases hb : decide ((kk : Int) < 8) with
  | true =>
    have hk8 : kk < 8 := by have := of_decide_eq_true hb; omega
    rw [if_pos rfl]
    refine wpAny_execs_cons ?_
    refine pair_lc (cm := cm) kF hL kmd kdu ?hh0 ?hw0 ?h0x (hs := ?hs0) (ha := ?ha0)
    case hh0 => exact rm.1
    case hs0 => rfl
    case ha0 => rfl
    case hw0 => rw [← hE]; kernel_rfl
    refine e_call3 (s := { s with heap := h₁, toks := t₁ }) (W₀.keeps k₁).K (by kernel_rfl) (nDo.keeps k₁) ?_ rfl rfl
    refine (nK _ _) _ _ _ _ k₁ ((nO _ _) _ _ _ _ k₁ ((nT _ _) _ _ _ _ k₁ ⟨(W₀.keeps k₁).K, ?_⟩))
    refine wpAny_call (c_do kk hk8 (s := { s with heap := h₁, toks := t₁ }) (rm.le (by decide)) (W₀.keeps k₁) (q.p1.cr.keeps k₁) (q.p2.cr.keeps k₁) (by omega) (by omega) fun mk h₂ t₂ k₂ l₂ c₂ => ?_)
    have k02 : Up s.heap h₂ := fun b o e => k₂ b o (k₁ b o e)
    refine e_call3 (s := { s with heap := h₂, toks := t₂ }) (W₀.keeps k02).K (by kernel_rfl) (nDe.keeps k02) ?_ rfl rfl
    refine (nK _ _) _ _ _ _ k02 ?_
    refine (pe_at (w := w) (h := s.heap) (k := ii) (P := fun v => v = .ref y1) (.name _ _) nM q.sm.l2 (by omega) (pe_nint nI) ⟨_, e1, rfl⟩) _ _ _ _ (rm.le (by decide)) k02 fun v1 s' ks1 hv1 => ?_
    refine (pe_at (w := w) (h := s.heap) (k := jj) (P := fun v => v = .ref y2) (.name _ _) nM q.sm.l2 (by omega) (pe_nint nJ) ⟨_, e2, rfl⟩) _ _ _ _ (rm.le (by decide)) (fun b o e => keeps_up ks1 _ _ (k02 b o e)) fun v2 s'' ks2 hv2 => ?_
    subst hv1 hv2
    obtain ⟨h₃, t₃, rfl, k₃⟩ := keeps_trans ks1 ks2
    have k03 : Up s.heap h₃ := fun b o e => k₃ b o (k02 b o e)
    refine ⟨(W₀.keeps k03).K, wpAny_call (c_deed (s := { s with heap := h₃, toks := t₃ }) (rm.le (by decide)) (W₀.keeps k03) (q.p1.dc.keeps k03) (q.p2.dc.keeps k03) fun du h₄ t₄ k₄ l₄ d₄ => ?_)⟩
    have k04 : Up s.heap h₄ := fun b o e => k₄ b o (k03 b o e)
    have c₄ : Cr w h₄ mk (opD (kk % 4) D1 D2) := c₂.keeps fun b o e => k₄ b o (k₃ b o e)
    have omk : Out L mk := .inr (Nat.lt_of_lt_of_le (lt6 k₁) l₂)
    have odu : Out L du := .inr (Nat.lt_of_lt_of_le (lt6 k03) l₄)
    refine ⟨m, q.lc.keeps k04, fun h₅ t₅ ob lc => ?_⟩
    have q₅ := (q.keeps k04).set lc ob (made_off (by simp) (by simp))
    refine wpAny_execs_nil (hQ _ mk du _ _ h₅ t₅ q₅ (by simp) ?_ ⟨cr_fx c₄ (q.lc.keeps k04) q.one omk ob.fx, d₄.low fun o e => ob du o (odu.ne 0 (by decide)) e, fun x => ?_, in_op (kk % 4) (Nat.mod_lt _ (by decide)) q.p1.inn q.p2.inn, omk, odu⟩)
    · show (if ("due" : Str) = "made" then _ else if ("due" : Str) = "due" then _ else m "due") = _
      rw [if_neg (by decide), if_pos rfl]
    · rw [fmod4 kk hk8]
      exact op_deed (kk % 4) (Nat.mod_lt _ (by decide)) q.p1.same q.p2.same q.p1.inn q.p2.inn x
  | false =>
    rw [if_neg (by decide)]
    refine wpAny_execs_cons ?_
    refine pair_lc (cm := cm) kF hL kmd kdu ?hh1 ?hw1 ?h1x (hs := ?hs1) (ha := ?ha1)
    case hh1 => exact rm.1
    case hs1 => rfl
    case ha1 => rfl
    case hw1 => rw [← hE]; kernel_rfl
    refine e_copy (s := { s with heap := h₁, toks := t₁ }) (rm.le (by decide)) ?_
    refine (nO _ _) _ _ _ _ k₁ ⟨x1, D1, rfl, q.p1.cr.keeps k₁, W₀.keeps k₁, by omega, fun mk h₂ t₂ k₂ l₂ c₂ => ?_⟩
    have k02 : Up s.heap h₂ := fun b o e => k₂ b o (k₁ b o e)
    have nM₂ := nM.keeps k02
    have nI₂ := nI.keeps k02
    have c4' : ∀ h', Up h₂ h' → h'.IsCell (L + 4) (some (.ref Mo)) := fun h' k => h4 ▸ (q.lc.keeps fun b o e => k b o (k02 b o e)).cell 4 (by decide) (by decide)
    have c6' : ∀ h', Up h₂ h' → h'.IsCell (L + 6) (some (.int (ii : Int) t6)) := fun h' k => h6 ▸ (q.lc.keeps fun b o e => k b o (k02 b o e)).cell 6 (by decide) (by decide)
    refine dcomp2 (s0 := { s with heap := h₂, toks := t₂ }) (cl := [("models", L + 4), ("i", L + 6)]) (fun _ => true) (fun k => (lk E1 k).getD 0) (rm.le (by decide)) (W₀.keeps k02) (by rw [← hE]; kernel_rfl) (by decide) rfl (by decide) (by decide) (by decide)
      (pe_at (k := ii) (P := fun v => v = .ref y1) (.name _ _) nM₂ (isList_at q.sm.l2 (k02 _)) (by omega) (pe_nint nI₂) ⟨_, e1, rfl⟩) (q.p1.dc.keeps k02).tb (by omega) ?_ ?_ ?_
    · intro C h' k tk m' hk up' hns hm
      exact pt_nil
    · intro C h' k tk m' hk hp up' hns hm
      generalize hCE : compEnvC _ _ C env = ce
      have a1 : Nm ce h' "models" (.ref Mo) := nm_cell (by rw [← hCE]; kernel_rfl) (by rw [← hCE, ← hE]; kernel_rfl) (by rw [← hCE]; kernel_rfl) (c4' h' up')
      have a2 : Nm ce h' "i" (.int (ii : Int) t6) := nm_cell (by rw [← hCE]; kernel_rfl) (by rw [← hCE, ← hE]; kernel_rfl) (by rw [← hCE]; kernel_rfl) (c6' h' up')
      have a3 : Nm ce h' "key" (.str k tk) := nm_local (by rw [← hCE]; kernel_rfl) (by rw [← hCE, ← hE]; kernel_rfl) (m := m') (by rw [← hCE]; exact hns) hm
      exact pe_subG (pe_at (k := ii) (P := fun v => v = .ref y1) (.name _ _) a1 (isList_at q.sm.l2 fun o e => up' _ _ (k02 _ _ e)) (by omega) (pe_nint a2) ⟨_, e1, rfl⟩) a3 ((q.p1.dc.keeps k02).keeps up').tb (lk_getD hk)
    intro h₃ du h₄ t₄ k₃ k₄ l₄ d₄
    have k03 : Up s.heap h₃ := fun b o e => k₃ b o (k02 b o e)
    have k04 : Up s.heap h₄ := fun b o e => k₄ b o (k03 b o e)
    obtain ⟨dx, cd₂⟩ := c₂.crd
    have cd₄ : Crd w h₄ mk dx D1 := cd₂.up fun b o e => k₄ b o (k₃ b o e)
    have odx := dx_out cd₄ (q.lc.keeps k04) q.one
    have hdx : dx ≠ du := neA (fun z => by
      have h2 := (cd₂.up k₃).lt.2.1
      exact absurd h2 (by rw [show dx = du from z]; exact Nat.not_lt.mpr l₄))
    have mk0 : s.heap.get? mk = none := none_ge k₁ l₂
    have du0 : s.heap.get? du = none := none_ge k03 l₄
    replace d₄ : Dc w h₄ du (mapD (fun k => (lk E1 k).getD 0) E1) := d₄
    have omk : Out L mk := .inr (Nat.lt_of_lt_of_le (lt6 k₁) l₂)
    have odu : Out L du := .inr (Nat.lt_of_lt_of_le (lt6 k03) l₄)
    have hmd : mk ≠ du := neA (fun z => by
      have h1 := (c₂.keeps k₃).tb (W₀.keeps k03)
      have h2 : @LT.lt Nat _ mk h₃.objs.size := h1.lt
      exact absurd h2 (by rw [show mk = du from z]; exact Nat.not_lt.mpr l₄))
    have sme : ∀ x, lk D1 x = lk (mapD (fun k => (lk E1 k).getD 0) E1) x := fun x => by
      rw [lk_mapD, q.p1.same]
      cases lk E1 x <;> simp
    refine ⟨m, q.lc.keeps k04, fun h₅ t₅ ob lc => ?_⟩
    have q₅ := (q.keeps k04).set lc ob (made_off (by simp) (by simp))
    have cd₅ : Crd w h₅ mk dx D1 := cd₄.at fun b o hb e => ob b o (by rcases hb with rfl | rfl; exact omk.ne 0 (by decide); exact odx.ne 0 (by decide)) e
    have up5 : Ob L s.heap h₅ := fun b o hb e => ob b o hb (k04 b o e)
    have off5 : ∀ n : Str, n = "kind" ∨ n = "j" ∨ n = "number" ∨ n = "one" ∨ n = "other" → (fun z : Str => if z = "made" then some (Value.ref mk) else if z = "due" then some (Value.ref du) else m z) n = m n := made_off (by simp) (by simp)
    have p₅ : Pr w L h₅ mk du D1 _ := ⟨cd₅.cr, d₄.low fun o e => ob du o (odu.ne 0 (by decide)) e, sme, q.p1.inn, omk, odu⟩
    have v1 : (fun z : Str => if z = "made" then some (Value.ref mk) else if z = "due" then some (Value.ref du) else m z) "made" = some (.ref mk) := by simp
    have v2 : (fun z : Str => if z = "made" then some (Value.ref mk) else if z = "due" then some (Value.ref du) else m z) "due" = some (.ref du) := by
      show (if ("due" : Str) = "made" then _ else if ("due" : Str) = "due" then _ else m "due") = _
      rw [if_neg (by decide), if_pos rfl]
    generalize (fun z : Str => if z = "made" then some (Value.ref mk) else if z = "due" then some (Value.ref du) else m z) = m₅ at q₅ v1 v2 off5
    clear lc ob d₄ c₂
    obtain ⟨tk5, qk5⟩ := q₅.kind
    obtain ⟨tn5, qn5⟩ := q₅.num
    have nK₅ : Nm env h₅ "kind" (.int (kk : Int) tk5) := nm_l kF hL kk' q₅.lc qk5
    have nN₅ : Nm env h₅ "number" (.int z tn5) := nm_l kF hL kn q₅.lc qn5
    refine wpAny_execs_cons (wpAny_If ((pb_eq (pe_nint nK₅) pe_int) _ _ _ _ (rm.le (by decide)) (fun _ _ e => e) fun s' ks => ?_))
    obtain ⟨h₆, t₆, rfl, k₆⟩ := ks
    cases hb9 : ((kk : Int) == 9) with
    | false =>
      rw [if_neg (by decide)]
      exact wpAny_execs_nil (wpAny_execs_nil (hQ _ mk du _ _ h₆ t₆ (q₅.keeps k₆) v1 v2 (p₅.keeps k₆)))
    | true =>
      rw [if_pos rfl]
      refine wpAny_execs_cons ?_
      refine pair_lc (cm := cm) kF hL kke kwo ?hh2 ?hw2 ?h2x (hs := ?hs2) (ha := ?ha2)
      case hh2 => exact rm.1
      case hs2 => rfl
      case ha2 => rfl
      case hw2 => rw [← hE]; kernel_rfl
      obtain ⟨k3, hk3, ek3⟩ := fmodN (z.fdiv 90) 3 (by decide)
      refine pe_abc (w := w) (h := h₅) (k := k3) (.bin _ _ _ _) hk3 ((pe_mod (by decide) (pe_fdiv (by decide) (by decide) (pe_nint nN₅) pe_int) pe_int).mono fun v hv => by rw [← ek3]; exact hv) _ _ _ _ (rm.le (by decide)) k₆ fun v1' s' ks1 ⟨tl, hv1⟩ => ?_
      subst hv1
      refine (pe_subt (w := w) (h := h₅) (pe_mod (by decide) (pe_fdiv (by decide) (by decide) (pe_nint nN₅) pe_int) pe_int) pe_int) _ _ _ _ (rm.le (by decide)) (fun b o e => keeps_up ks1 _ _ (k₆ b o e)) fun v2' s'' ks2 ⟨tw, hv2⟩ => ?_
      subst hv2
      obtain ⟨h₇, t₇, rfl, k₇⟩ := keeps_trans ks1 ks2
      have k57 : Up h₅ h₇ := fun b o e => k₇ b o (k₆ b o e)
      refine ⟨m₅, q₅.lc.keeps k57, fun h₈ t₈ ob lc => ?_⟩
      have q₈ := (q₅.keeps k57).set lc ob (made_off (by simp) (by simp))
      have p₈ := (p₅.keeps k57).fx (q₅.lc.keeps k57) q₅.one ob.fx
      have cd₈ : Crd w h₈ mk dx D1 := cd₅.at fun b o hb e => ob b o (by rcases hb with rfl | rfl; exact omk.ne 0 (by decide); exact odx.ne 0 (by decide)) (k57 b o e)
      have up8 : Ob L s.heap h₈ := fun b o hb e => ob b o hb (k57 b o (up5 b o hb e))
      generalize hwo : (z.fdiv 270).fmod 7 - 3 = wo at q₈ lc
      have v3 : (fun z : Str => if z = "key" then some (Value.str (abc.getD k3 "a") tl) else if z = "worth" then some (Value.int wo tw) else m₅ z) "made" = some (.ref mk) := by
        show (if ("made" : Str) = "key" then _ else if ("made" : Str) = "worth" then _ else m₅ "made") = _
        rw [if_neg (by decide), if_neg (by decide), v1]
      have v4 : (fun z : Str => if z = "key" then some (Value.str (abc.getD k3 "a") tl) else if z = "worth" then some (Value.int wo tw) else m₅ z) "due" = some (.ref du) := by
        show (if ("due" : Str) = "key" then _ else if ("due" : Str) = "worth" then _ else m₅ "due") = _
        rw [if_neg (by decide), if_neg (by decide), v2]
      have v5 : (fun z : Str => if z = "key" then some (Value.str (abc.getD k3 "a") tl) else if z = "worth" then some (Value.int wo tw) else m₅ z) "key" = some (.str (abc.getD k3 "a") tl) := by simp
      have v6 : (fun z : Str => if z = "key" then some (Value.str (abc.getD k3 "a") tl) else if z = "worth" then some (Value.int wo tw) else m₅ z) "worth" = some (.int wo tw) := by
        show (if ("worth" : Str) = "key" then _ else if ("worth" : Str) = "worth" then _ else m₅ "worth") = _
        rw [if_neg (by decide), if_pos rfl]
      have off8 : ∀ n : Str, n = "kind" ∨ n = "j" ∨ n = "number" ∨ n = "one" ∨ n = "other" → (fun z : Str => if z = "key" then some (Value.str (abc.getD k3 "a") tl) else if z = "worth" then some (Value.int wo tw) else m₅ z) n = m n := fun n hn => (made_off (by simp) (by simp) n hn).trans (off5 n hn)
      generalize (fun z : Str => if z = "key" then some (Value.str (abc.getD k3 "a") tl) else if z = "worth" then some (Value.int wo tw) else m₅ z) = m₈ at q₈ v3 v4 v5 v6 off8
      clear lc
      have nMd : Nm env h₈ "made" (.ref mk) := nm_l kF hL kmd q₈.lc v3
      have nDu : Nm env h₈ "due" (.ref du) := nm_l kF hL kdu q₈.lc v4
      have nKe : Nm env h₈ "key" (.str (abc.getD k3 "a") tl) := nm_l kF hL kke q₈.lc v5
      have nWo : Nm env h₈ "worth" (.int wo tw) := nm_l kF hL kwo q₈.lc v6
      have W₈ := W _ q₈.lo
      refine wpAny_execs_cons (wpAny_Assign_Subscript ((nWo _ _) _ _ _ _ (fun _ _ e => e) ((nMd _ _) _ _ _ _ (fun _ _ e => e) ((nKe _ _) _ _ _ _ (fun _ _ e => e) ?_))))
      refine set_crd (s := { s with heap := h₈, toks := t₈ }) W₈ cd₈ (by omega) fun h₉ t₉ cd₉ s₉ => ?_
      have lc₉ := q₈.lc.but omk s₉
      have dc₉ : Dc w h₉ du _ := p₈.dc.low fun o e => (s₉.2 _ (Ne.symm hmd)).trans e
      have up9 : Ob L s.heap h₉ := fun b o hb e => (s₉.2 b (fun z => by rw [z, mk0] at e; cases e)).trans (up8 b o hb e)
      have nDu : Nm env h₉ "due" (.ref du) := nm_l kF hL kdu lc₉ v4
      have nKe : Nm env h₉ "key" (.str (abc.getD k3 "a") tl) := nm_l kF hL kke lc₉ v5
      have nWo : Nm env h₉ "worth" (.int wo tw) := nm_l kF hL kwo lc₉ v6
      refine wpAny_execs_cons (wpAny_Assign_Subscript ((nWo _ _) _ _ _ _ (fun _ _ e => e) ((nDu _ _) _ _ _ _ (fun _ _ e => e) ((nKe _ _) _ _ _ _ (fun _ _ e => e) ?_))))
      refine set_dc (s := { s with heap := h₉, toks := t₉ }) dc₉ (Nat.le_trans (mapD_len _ _) (by omega)) fun h₁₀ t₁₀ dc₁₀ s₁₀ => ?_
      have lc₁₀ := lc₉.but odu s₁₀
      have up10 : Ob L s.heap h₁₀ := fun b o hb e => (s₁₀.2 b (fun z => by rw [z, du0] at e; cases e)).trans (up9 b o hb e)
      have cd₁₀ : Crd w h₁₀ mk dx _ := cd₉.at fun b o hb e => (s₁₀.2 b (by rcases hb with rfl | rfl; exact hmd; exact hdx)).trans e
      have q₁₀ := q.set lc₁₀ up10 off8
      refine wpAny_execs_nil (wpAny_execs_nil (hQ _ mk du _ _ h₁₀ t₁₀ q₁₀ v3 v4 ⟨cd₁₀.cr, dc₁₀, fun x => ?_, in_st q.p1.inn (abc_mem hk3), omk, odu⟩))
      rw [lk_st, lk_st, sme]
end Mine
end

section
open PySem PySem.W PyProof.Rows PySem.Calls Builtin
set_option linter.unusedVariables false
namespace Mine
set_option maxRecDepth 100000
set_option maxHeartbeats 4000000

theorem sl_ne_mo {w : World} {L : Nat} {h : Heap} {Sl Mo : Addr} {its jts : Array Value} (q : SmF w L h Sl Mo its jts) : Sl ≠ Mo := by
  rintro rfl
  obtain ⟨x, y, D, D', e1, e2, p⟩ := q.all 0 (by decide)
  have : its = jts := by
    obtain ⟨o, e, _, n, hd⟩ := q.l1
    obtain ⟨o', e', _, n', hd'⟩ := q.l2
    rw [e] at e'; cases e'; rw [hd] at hd'; cases hd'; rfl
  rw [this, e2] at e1
  injection e1 with e1; injection e1 with e1
  subst e1
  obtain ⟨dx, kvs, ⟨ep, nm, es, e, _⟩, _⟩ := p.cr
  obtain ⟨kvs', ⟨ep', nm', es', e', _⟩, _⟩ := p.dc
  rw [e] at e'
  cases e'
theorem setIf_at {its : Array Value} {ii i : Nat} {v : Value} (hii : ii < its.size) : (its.setIfInBounds ii v)[i]? = if i = ii then some v else its[i]? := by
  rw [Array.getElem?_setIfInBounds]
  by_cases e : ii = i
  · subst e; rw [if_pos rfl, if_pos rfl, if_pos hii]
  · rw [if_neg e, if_neg (fun z => e z.symm)]

theorem tB {w : World} {A : Around} {E : Value → Shared → Prop} {s : Shared} {env : Env} {L : Nat} {a : Addr} {cd : Value} {Q : Flow → Shared → Prop} {s₀ h₀ : Heap} {Sl Mo : Addr} {its jts : Array Value} {m : Str → Option Value} {cm : Nat → Option Value} {x1 y1 x2 y2 mk du : Addr} {D1 E1 D2 E2 D D' : Ct} {kk ii jj : Nat} {z : Int}
    (hE : lawEnv w L a cd = env) (rm : Rm 90 A) (W : ∀ h, Lo L s₀ h → Wd w h) (q : Mid w L s₀ h₀ s.heap Sl Mo its jts m cm x1 y1 x2 y2 D1 E1 D2 E2 kk jj z) (h4 : cm 4 = some (.ref Mo)) (h5 : cm 5 = some (.ref Sl)) (h6 : ∃ t, cm 6 = some (.int (ii : Int) t)) (hii : ii < 3) (hjj : jj < 3)
    (e1 : jts[ii]? = some (.ref y1)) (e2 : jts[jj]? = some (.ref y2)) (v1 : m "made" = some (.ref mk)) (v2 : m "due" = some (.ref du)) (pr : Pr w L s.heap mk du D D')
    (hQ : ∀ h' tk, LC L h' m cm → Sm w L h' Sl Mo → Lo L s₀ h' → (∀ b o, b ∉ [(L : Addr), ((L + 6 : Nat) : Addr), Sl, Mo] → h₀.get? b = some o → h'.get? b = some o) → Q .next { s with heap := h', toks := tk }) :
    wpAny (model pg w) A (execs ((lpBd w).drop 3) env) Q E s := by
  have hL : env.locals = L := by rw [← hE]; rfl
  have kF : env.scope.kind = .function := by rw [← hE]; kernel_rfl
  unfold lpBd lawBd
  rw [show (KH w).lookup 95 = some _ from rfl]
  dsimp only [List.drop]
  have ko : env.kindOf "one" = some .local := by rw [← hE]; kernel_rfl
  have kt : env.kindOf "other" = some .local := by rw [← hE]; kernel_rfl
  have kj : env.kindOf "j" = some .local := by rw [← hE]; kernel_rfl
  have kmd : env.kindOf "made" = some .local := by rw [← hE]; kernel_rfl
  have kdu : env.kindOf "due" = some .local := by rw [← hE]; kernel_rfl
  have km : env.kindOf "models" = some .cell := by rw [← hE]; kernel_rfl
  have cM : env.cells.lookup ("models" : Str) = some (L + 4) := by rw [← hE]; kernel_rfl
  have kS : env.kindOf "slots" = some .cell := by rw [← hE]; kernel_rfl
  have cS : env.cells.lookup ("slots" : Str) = some (L + 5) := by rw [← hE]; kernel_rfl
  have ki : env.kindOf "i" = some .cell := by rw [← hE]; kernel_rfl
  have cI : env.cells.lookup ("i" : Str) = some (L + 6) := by rw [← hE]; kernel_rfl
  obtain ⟨t6, h6⟩ := h6
  obtain ⟨tj, qj⟩ := q.j
  have W₀ := W _ q.lo
  have nJ : Nm env s.heap "j" (.int (jj : Int) tj) := nm_l kF hL kj q.lc qj
  have nO : Nm env s.heap "one" (.ref x1) := nm_l kF hL ko q.lc q.one
  have nT : Nm env s.heap "other" (.ref x2) := nm_l kF hL kt q.lc q.oth
  have nMd : Nm env s.heap "made" (.ref mk) := nm_l kF hL kmd q.lc v1
  have nDu : Nm env s.heap "due" (.ref du) := nm_l kF hL kdu q.lc v2
  have nM : Nm env s.heap "models" (.ref Mo) := nm_c 4 (by decide) (by decide) kF km cM q.lc h4
  have nS : Nm env s.heap "slots" (.ref Sl) := nm_c 5 (by decide) (by decide) kF kS cS q.lc h5
  have nI : Nm env s.heap "i" (.int (ii : Int) t6) := nm_c 6 (by decide) (by decide) kF ki cI q.lc h6
  have nSame : Nm env s.heap "_law_same" (.ref 90) := nm_global W₀ kF (by rw [← hE]; kernel_rfl) (by rw [← hE]; kernel_rfl) (by kernel_rfl)
  have inE1 : In E1 := fun x hx => q.p1.inn x (by rw [q.p1.same]; exact hx)
  have inE2 : In E2 := fun x hx => q.p2.inn x (by rw [q.p2.same]; exact hx)
  have l1' := in_len q.p1.dc.nodup inE1
  have l2' := in_len q.p2.dc.nodup inE2
  refine wpAny_execs_cons (wpAny_If ?_)
  rw [arm_isTrue_BoolOp]
  refine wpAny_allTrue_Or_cons (wpAny_isTrue_Not (isTrue_plain ?_))
  refine e_call2 W₀.K (by kernel_rfl) nSame ?_ rfl rfl
  refine (nO _ _) _ _ _ _ (fun _ _ e => e) ?_
  refine (pe_at (w := w) (h := s.heap) (k := ii) (P := fun v => v = .ref y1) (.name _ _) nM q.sm.l2 (by omega) (pe_nint nI) ⟨_, e1, rfl⟩) _ _ _ _ (rm.le (by decide)) (fun _ _ e => e) fun w1 s' ks hw1 => ?_
  subst hw1
  obtain ⟨h₁, t₁, rfl, k₁⟩ := ks
  refine ⟨(W₀.keeps k₁).K, call_same (s := { s with heap := h₁, toks := t₁ }) (rm.le (by decide)) (W₀.keeps k₁) (q.p1.cr.keeps k₁) (q.p1.dc.keeps k₁) q.p1.same (by omega) fun h₂ t₂ k₂ => wpAny_truthy_bool ?_⟩
  have k02 : Up s.heap h₂ := fun b o e => k₂ b o (k₁ b o e)
  rw [if_neg (by decide)]
  refine wpAny_allTrue_Or_cons (wpAny_isTrue_Not (isTrue_plain ?_))
  refine e_call2 (s := { s with heap := h₂, toks := t₂ }) (W₀.keeps k02).K (by kernel_rfl) (nSame.keeps k02) ?_ rfl rfl
  refine (nT _ _) _ _ _ _ k02 ?_
  refine (pe_at (w := w) (h := s.heap) (k := jj) (P := fun v => v = .ref y2) (.name _ _) nM q.sm.l2 (by omega) (pe_nint nJ) ⟨_, e2, rfl⟩) _ _ _ _ (rm.le (by decide)) k02 fun w1 s' ks hw1 => ?_
  subst hw1
  obtain ⟨h₃, t₃, rfl, k₃⟩ := ks
  have k03 : Up s.heap h₃ := fun b o e => k₃ b o (k02 b o e)
  refine ⟨(W₀.keeps k03).K, call_same (s := { s with heap := h₃, toks := t₃ }) (rm.le (by decide)) (W₀.keeps k03) (q.p2.cr.keeps k03) (q.p2.dc.keeps k03) q.p2.same (by omega) fun h₄ t₄ k₄ => wpAny_truthy_bool ?_⟩
  have k04 : Up s.heap h₄ := fun b o e => k₄ b o (k03 b o e)
  rw [if_neg (by decide)]
  refine wpAny_allTrue_Or_nil ?_
  rw [if_neg (by decide)]
  refine wpAny_execs_nil ?_
  -- the store
  have q₄ := q.keeps k04
  have pr₄ := pr.keeps k04
  have hne := sl_ne_mo q.sm
  refine wpAny_execs_cons ?_
  refine Assign_Tuple (wpAny_Tuple ?_) (hs := ?_) (hw := ?hw9)
  case hw9 => rw [← hE]; kernel_rfl
  · refine spliced_cons ((nMd _ _) _ _ _ _ k04 (spliced_cons ((nDu _ _) _ _ _ _ k04 (spliced_nil ⟨by size_fits, ?_⟩))))
    refine wpAny_assign_Tuple (items := #[.ref mk, .ref du]) rm.1 ⟨_, Heap.get?_push_size _ rfl, rfl, _, rfl⟩ rfl rfl fun h₅ he => ?_
    have k05 : Up h₄ h₅ := fun b o e => he b o (by rw [Heap.size_push]; exact neA (Nat.ne_of_lt (Nat.lt_succ_of_lt (Heap.lt_size e)))) (Heap.get?_push_of_some _ e)
    have q₅ := q₄.keeps k05
    have pr₅ := pr₄.keeps k05
    have kall : Up s.heap h₅ := fun b o e => k05 b o (k04 b o e)
    refine assignInOrder_cons (asg_sub (.name _ _) ((nS _ _) _ _ _ _ kall ((nI _ _) _ _ _ _ kall ?_)))
    refine wpAny_setItem_list q₅.sm.l1 (by omega) (by omega) (by rw [q₅.sm.s1]; omega) fun h₆ l₆ s₆ => ?_
    dsimp only at s₆
    have lc₆ := q₅.lc.but (.inr q₅.sm.o1) s₆
    have nM₆ : Nm env h₆ "models" (.ref Mo) := nm_c 4 (by decide) (by decide) kF km cM lc₆ h4
    have nI₆ : Nm env h₆ "i" (.int (ii : Int) t6) := nm_c 6 (by decide) (by decide) kF ki cI lc₆ h6
    have l2₆ := isList_at q₅.sm.l2 fun o e => (s₆.2 _ (Ne.symm hne)).trans e
    refine assignInOrder_cons (asg_sub (.name _ _) ((nM₆ _ _) _ _ _ _ (fun _ _ e => e) ((nI₆ _ _) _ _ _ _ (fun _ _ e => e) ?_)))
    refine wpAny_setItem_list l2₆ (by omega) (by omega) (by rw [q₅.sm.s2]; omega) fun h₇ l₇ s₇ => ?_
    refine assignInOrder_nil ?_
    dsimp only at s₇
    rw [Int.toNat_natCast] at l₆ l₇
    have lc₇ := lc₆.but (.inr q₅.sm.o2) s₇
    have both : ∀ {x y : Addr} {D D' : Ct}, Pr w L h₅ x y D D' → Pr w L h₇ x y D D' := fun p => pr_lists (pr_lists p q₅.sm.l1 s₆) l2₆ s₇
    have sm₇ : SmF w L h₇ Sl Mo (its.setIfInBounds ii (.ref mk)) (jts.setIfInBounds ii (.ref du)) := by
      refine ⟨q₅.sm.o1, q₅.sm.o2, isList_at l₆ fun o e => (s₇.2 _ hne).trans e, l₇, by rw [Array.size_setIfInBounds]; exact q₅.sm.s1, by rw [Array.size_setIfInBounds]; exact q₅.sm.s2, fun i hi => ?_⟩
      rw [setIf_at (by rw [q₅.sm.s1]; exact hii), setIf_at (by rw [q₅.sm.s2]; exact hii)]
      by_cases e : i = ii
      · rw [if_pos e, if_pos e]
        exact ⟨mk, du, D, D', rfl, rfl, both pr₅⟩
      · rw [if_neg e, if_neg e]
        obtain ⟨x, y, F, F', a1, a2, a3⟩ := q₅.sm.all i hi
        exact ⟨x, y, F, F', a1, a2, both a3⟩
    have lo₇ : Lo L s₀ h₇ := fun b o hb e => (s₇.2 b (neA (by have := q.sm.o2; omega))).trans ((s₆.2 b (neA (by have := q.sm.o1; omega))).trans (q₅.lo b o hb e))
    have wf₇ : ∀ b o, b ∉ [(L : Addr), ((L + 6 : Nat) : Addr), Sl, Mo] → h₀.get? b = some o → h₇.get? b = some o := fun b o hb e =>
      (s₇.2 b (fun z => hb (by rw [z]; exact .tail _ (.tail _ (.tail _ (.head _)))))).trans ((s₆.2 b (fun z => hb (by rw [z]; exact .tail _ (.tail _ (.head _))))).trans (q₅.wf b o hb e))
    clear both pr₅ pr₄ q₅ q₄ l₆ l₇ l2₆ nM₆ nI₆
    have W₇ := W _ lo₇
    -- the last test
    have nall : Nm env h₇ "all" (.builtin "all") := nm_builtin W₇ kF (by rw [← hE]; kernel_rfl) (by rw [← hE]; kernel_rfl) (by rw [← hE]; kernel_rfl) (by kernel_rfl) (by boot_fast) (by decide)
    have nrg : Nm env h₇ "range" (.type "range") := nm_builtin W₇ kF (by rw [← hE]; kernel_rfl) (by rw [← hE]; kernel_rfl) (by rw [← hE]; kernel_rfl) (by kernel_rfl) (by boot_fast) (by decide)
    refine wpAny_execs_cons (wpAny_If (wpAny_isTrue_Not (isTrue_plain ?_)))
    refine e_all (cl := [("slots", L + 5), ("models", L + 4)]) rm.1 nall (by rw [← hE]; kernel_rfl) (by decide) rfl (by decide) (by decide) ?_
    refine (it_range (n := 3) rm.1 nrg (by decide)) _ fun n' I fp h₈ t₈ St hN hn up₈ hI hfp hown Wk hst => ?_
    subst hN
    have hI : h₇.get? I = none := hI
    have live : ∀ b o, h₇.get? b = some o → b ∉ [I] := fun b o e => nin1 (fun z => by rw [show b = I from z, hI] at e; cases e)
    refine ⟨I, fp, [I], _, _, St, rfl, walks_mono_P Wk rfl (fun i v hi p => (⟨hi, p⟩ : i < 3 ∧ ∃ t, v = .int (i : Int) t)), by size_fits, hst, hfp, ?_, fun h₉ t₉ k₉ => ?_⟩
    · rintro C i v s₉ m₉ E₉ hC ⟨hi, t, rfl⟩ hn hm hk
      generalize hCE : compEnvC _ _ C env = ce
      have up₉ : Up h₇ s₉.heap := fun b o e => hk b o (live b o e) (up₈ b o e)
      have W₉ := W₇.keeps up₉
      have a1 : Nm ce s₉.heap "slots" (.ref Sl) := nm_cell (by rw [← hCE]; kernel_rfl) (by rw [← hCE, ← hE]; kernel_rfl) (by rw [← hCE]; kernel_rfl) (h5 ▸ (lc₇.keeps up₉).cell 5 (by decide) (by decide))
      have a2 : Nm ce s₉.heap "models" (.ref Mo) := nm_cell (by rw [← hCE]; kernel_rfl) (by rw [← hCE, ← hE]; kernel_rfl) (by rw [← hCE]; kernel_rfl) (h4 ▸ (lc₇.keeps up₉).cell 4 (by decide) (by decide))
      have a3 : Nm ce s₉.heap "k" (.int (i : Int) t) := nm_local (by rw [← hCE]; kernel_rfl) (by rw [← hCE, ← hE]; kernel_rfl) (m := m₉) (by rw [← hCE]; exact hn) hm
      have a4 : Nm ce s₉.heap "_law_same" (.ref 90) := nm_global W₉ (by rw [← hCE]; kernel_rfl) (by rw [← hCE, ← hE]; kernel_rfl) (by rw [← hCE, ← hE]; kernel_rfl) (by kernel_rfl)
      exact el_same (h := s.heap) (rm.le (by decide)) hi W₉ (sm₇.keeps up₉).sm a1 a2 a3 a4
    · refine wpAny_truthy_bool ?_
      rw [if_neg (by decide)]
      have up₉ : Up h₇ h₉ := fun b o e => k₉ b o (live b o e) (up₈ b o e)
      exact wpAny_execs_nil (wpAny_execs_nil (hQ h₉ t₉ (lc₇.keeps up₉) (sm₇.keeps up₉).sm (lo_trans lo₇ fun b o _ e => up₉ b o e) fun b o hb e => up₉ b o (wf₇ b o hb e)))
  · rfl
end Mine
end

section
open PySem PySem.W PyProof.Rows PySem.Calls Builtin
set_option linter.unusedVariables false
namespace Mine
set_option maxRecDepth 100000
set_option maxHeartbeats 4000000

theorem mset2 {m : Str → Option Value} {x y n : Str} {v u v' : Option Value} (h : m n = v') (ne : ¬ n = x := by decide +kernel) (ne2 : ¬ n = y := by decide +kernel) : (if n = x then v else if n = y then u else m n) = v' := by rw [if_neg ne, if_neg ne2]; exact h
theorem st_cell2 {w : World} {A : Around} {E : Value → Shared → Prop} {s : Shared} {env : Env} {L : Nat} {m : Str → Option Value} {cm : Nat → Option Value} {x : Str} {v : Value} (j : Nat) (h1 : 1 ≤ j) (h2 : j ≤ 6) {Q : Unit → Shared → Prop} (kF : env.scope.kind = .function) (kx : env.kindOf x = some .cell) (hc : env.cells.lookup x = some (L + j)) (c : LC L s.heap m cm)
    (hQ : ∀ h' tk, LC L h' m (fun i => if i = j then some v else cm i) → Heap.SameBut ((L + j : Nat) : Addr) s.heap h' → Q () { s with heap := h', toks := tk }) : wpAny (model pg w) A (storeName env x v) Q E s := by
  refine wpAny_storeName_cell kF kx hc (c.cell j h1 h2) (fun h₂ hn₂ hs₂ => ?_)
  refine hQ h₂ _ ⟨c.ns.sameBut hs₂ (Ne.symm (neA (lne h1))), fun i a b => ?_⟩ hs₂
  by_cases e : i = j
  · subst e; rw [if_pos rfl]; exact hn₂
  · rw [if_neg e]
    obtain ⟨o, ho, r⟩ := c.cell i a b
    exact ⟨o, (hs₂.2 _ (neA (jne e))).trans ho, r⟩
theorem but_fx {L j : Nat} {h h' : Heap} (hj : j ≤ 6) (k : Heap.SameBut ((L + j : Nat) : Addr) h h') : Fx L h h' := fun b o hb e => (k.2 b (neA (fne j hj hb))).trans e

theorem seg4 {w : World} {A : Around} {E : Value → Shared → Prop} {s : Shared} {env : Env} {L : Nat} {m : Str → Option Value} {cm : Nat → Option Value} {a : Addr} {cd : Value} {Q : Flow → Shared → Prop} {S Sl Mo : Addr} {n : Nat}
    (hE : lawEnv w L a cd = env) (rm : Rm 90 A) (W₀ : Wd w s.heap) (hW : @LT.lt Nat _ 95 L) (c : LC L s.heap m cm) (hv : ∃ n v, m n = some v) (h1 : cm 1 = some (.ref S)) (h4 : cm 4 = some (.ref Mo)) (h5 : cm 5 = some (.ref Sl)) (hS : LL s.heap S n AnyInt) (hn : n ≤ 1000) (sm : Sm w L s.heap Sl Mo)
    (hQ : ∀ h' tk, Lo L s.heap h' → Q (.ret (.bool true)) { s with heap := h', toks := tk }) : wpAny (model pg w) A (execs ((lawBd w).drop 11) env) Q E s := by
  have hL : env.locals = L := by rw [← hE]; rfl
  have kF : env.scope.kind = .function := by rw [← hE]; kernel_rfl
  have W : ∀ h, Lo L s.heap h → Wd w h := fun h lo => W₀.low fun b o hb e => lo b o (Nat.lt_of_le_of_lt hb hW) e
  have hTA := @tA w
  have hTB := @tB w
  unfold lpBd lawBd at hTA hTB
  unfold lawBd
  rw [show (KH w).lookup 95 = some _ from rfl] at hTA hTB ⊢
  dsimp only [List.drop] at hTA hTB ⊢
  have kc : env.kindOf "script" = some .cell := by rw [← hE]; kernel_rfl
  have cS : env.cells.lookup ("script" : Str) = some (L + 1) := by rw [← hE]; kernel_rfl
  have kN : env.kindOf "number" = some .local := by rw [← hE]; kernel_rfl
  have kK : env.kindOf "kind" = some .local := by rw [← hE]; kernel_rfl
  have kj : env.kindOf "j" = some .local := by rw [← hE]; kernel_rfl
  have ko : env.kindOf "one" = some .local := by rw [← hE]; kernel_rfl
  have kt : env.kindOf "other" = some .local := by rw [← hE]; kernel_rfl
  have kSl : env.kindOf "slots" = some .cell := by rw [← hE]; kernel_rfl
  have cSl : env.cells.lookup ("slots" : Str) = some (L + 5) := by rw [← hE]; kernel_rfl
  have ki : env.kindOf "i" = some .cell := by rw [← hE]; kernel_rfl
  have cI : env.cells.lookup ("i" : Str) = some (L + 6) := by rw [← hE]; kernel_rfl
  have nSc : Nm env s.heap "script" (.ref S) := nm_c 1 (by decide) (by decide) kF kc cS c h1
  refine wpAny_execs_cons (wpAny_For (it_slice2 (lo := some 4) (hi := some 16) rm.1 nSc hS hn (fun s' Q _ q => part_int q) (fun s' Q _ q => part_int q) fun n' I fp h₀ t₀ St up₀ hI hown Wk hLv hst => ?_) (by intro _; rfl))
  have live : ∀ b o, s.heap.get? b = some o → b ≠ I := fun b o e z => by rw [z, hI] at e; cases e
  have cself : (fun j => if j = 6 then cm 6 else cm j) = cm := by funext j; by_cases e : j = 6 <;> simp [e]
  refine for_core2 (s := { s with heap := h₀, toks := t₀ }) (wr := [(L : Addr), ((L + 6 : Nat) : Addr), Sl, Mo]) Wk (fun h => NotD h I) hLv
    (fun i h => ∃ m v6, LC L h m (fun j => if j = 6 then v6 else cm j) ∧ (∃ n v, m n = some v) ∧ Sm w L h Sl Mo ∧ Lo L s.heap h) hst
    ⟨m, cm 6, by rw [cself]; exact c.keeps up₀, hv, sm.keeps up₀, fun b o _ e => up₀ b o e⟩ ?_ ?_ ?_ ?_
  · intro b hb
    have hb0 := hown b hb
    have hne : ∀ x, (∃ o, s.heap.get? x = some o) → b ≠ x := fun x ⟨o, e⟩ z => by rw [z, e] at hb0; cases hb0
    intro hm
    rcases List.mem_cons.mp hm with e | hm
    · exact hne _ (let ⟨o, es, ep, e, _⟩ := c.ns; ⟨o, e⟩) e
    rcases List.mem_cons.mp hm with e | hm
    · exact hne _ (let ⟨o, e, _⟩ := c.cell 6 (by decide) (by decide); ⟨o, e⟩) e
    rcases List.mem_cons.mp hm with e | hm
    · exact hne _ (let ⟨_, _, its, jts, ⟨o, e, _⟩, _⟩ := sm; ⟨o, e⟩) e
    rcases List.mem_cons.mp hm with e | hm
    · exact hne _ (let ⟨_, _, its, jts, _, ⟨o, e, _⟩, _⟩ := sm; ⟨o, e⟩) e
    · cases hm
  · rintro i h h' nd ⟨m', v6, c', hv', sm', lo⟩ hk
    have hk' : ∀ b o, b ≠ I → h.get? b = some o → h'.get? b = some o := fun b o hb e => hk b o (nin1 hb) e
    have lL : (L : Addr) ≠ I := by obtain ⟨o, es, ep, e, _⟩ := c.ns; exact live _ _ e
    have lj : ∀ j, 1 ≤ j → j ≤ 6 → ((L + j : Nat) : Addr) ≠ I := fun j a b => by obtain ⟨o, e, _⟩ := c.cell j a b; exact live _ _ e
    have lSl : Sl ≠ I := by obtain ⟨_, _, its, jts, ⟨o, e, _⟩, _⟩ := sm; exact live _ _ e
    have lMo : Mo ≠ I := by obtain ⟨_, _, its, jts, _, ⟨o, e, _⟩, _⟩ := sm; exact live _ _ e
    refine ⟨m', v6, ⟨let ⟨o, es, ep, e, r⟩ := c'.ns; ⟨o, es, ep, hk' _ _ lL e, r⟩, fun j a b => let ⟨o, e, r⟩ := c'.cell j a b; ⟨o, hk' _ _ (lj j a b) e, r⟩⟩, hv', ?_, fun b o hb e => hk' b o (live b o e) (lo b o hb e)⟩
    obtain ⟨o1, o2, its, jts, a1, a2, a3, a4, a5⟩ := sm'
    exact ⟨o1, o2, its, jts, isList_at a1 fun o e => hk' _ o lSl e, isList_at a2 fun o e => hk' _ o lMo e, a3, a4, fun i hi => let ⟨x, y, D, D', u, v, p⟩ := a5 i hi; ⟨x, y, D, D', u, v, pr_but p nd hk'⟩⟩
  · rintro i _ h tk' E'' hi ⟨z, t, rfl⟩ ⟨m', v6, c', hv', sm', lo⟩
    refine wpAny_assign_Name (st_l (s := { s with heap := h, toks := tk' }) kF hL kN c' fun h₁ t₁ c₁ f₁ => ?_)
    have sm₁ := (let ⟨its, jts, q⟩ := sm'.f; (⟨its, jts, q.fx c' hv' f₁.fx⟩ : ∃ its jts, SmF w L h₁ Sl Mo its jts))
    obtain ⟨its, jts, sf₁⟩ := sm₁
    have lo₁ : Lo L s.heap h₁ := lo_trans lo f₁.fx.lo
    have wf₁ : ∀ b o, b ∉ [(L : Addr), ((L + 6 : Nat) : Addr), Sl, Mo] → h.get? b = some o → h₁.get? b = some o := fun b o hb e => f₁ b o (fun z => hb (by rw [z]; exact .head _)) e
    have qn : (fun y : Str => if y = "number" then some (Value.int z t) else m' y) "number" = some (.int z t) := by simp
    generalize (fun y : Str => if y = "number" then some (Value.int z t) else m' y) = m₁ at c₁ qn
    have nN : Nm env h₁ "number" (.int z t) := nm_l kF hL kN c₁ qn
    obtain ⟨kk, hkk, ek⟩ := fmodN z 10 (by decide)
    obtain ⟨ii, hii, ei⟩ := fmodN (z.fdiv 10) 3 (by decide)
    obtain ⟨jj, hjj, ej⟩ := fmodN (z.fdiv 30) 3 (by decide)
    refine wpAny_execs_cons ?_
    refine Assign_Tuple (wpAny_Tuple ?_) (hs := ?_) (hw := ?hw9)
    case hw9 => rw [← hE]; kernel_rfl
    rotate_left
    · rfl
    refine spliced_cons ((pe_mod (w := w) (h := h₁) (by decide) (pe_nint nN) pe_int) _ _ _ _ (rm.le (by decide)) (fun _ _ e => e) fun u1 s1 ks1 ⟨a1, hu1⟩ => ?_)
    refine spliced_cons ((pe_mod (w := w) (h := h₁) (by decide) (pe_fdiv (by decide) (by decide) (pe_nint nN) pe_int) pe_int) _ _ _ _ (rm.le (by decide)) (keeps_up ks1) fun u2 s2 ks2 ⟨a2, hu2⟩ => ?_)
    refine spliced_cons ((pe_mod (w := w) (h := h₁) (by decide) (pe_fdiv (by decide) (by decide) (pe_nint nN) pe_int) pe_int) _ _ _ _ (rm.le (by decide)) (fun b o e => keeps_up ks2 _ _ (keeps_up ks1 _ _ e)) fun u3 s3 ks3 ⟨a3, hu3⟩ => spliced_nil ⟨by size_fits, ?_⟩)
    subst hu1 hu2 hu3
    obtain ⟨h₂, t₂, rfl, k₂⟩ := keeps_trans ks1 (keeps_trans ks2 ks3)
    clear ks1 ks2 ks3
    rw [show z.fmod 10 = (kk : Int) from ek, show (z.fdiv 10).fmod 3 = (ii : Int) from ei, show (z.fdiv 30).fmod 3 = (jj : Int) from ej]
    refine wpAny_assign_Tuple (items := #[.int (kk : Int) a1, .int (ii : Int) a2, .int (jj : Int) a3]) rm.1 ⟨_, Heap.get?_push_size _ rfl, rfl, _, rfl⟩ rfl rfl fun h₃ he => ?_
    have k₃ : Up h₁ h₃ := fun b o e => he b o (by rw [Heap.size_push]; exact neA (Nat.ne_of_lt (Nat.lt_succ_of_lt (Heap.lt_size (k₂ b o e))))) (Heap.get?_push_of_some _ (k₂ b o e))
    clear he
    have c₃ := c₁.keeps k₃
    refine assignInOrder_cons (assign_Name (st_l (s := { s with heap := h₃, toks := t₂ }) kF hL kK c₃ fun h₄ t₄ c₄ f₄ => ?_))
    have qk : (fun y : Str => if y = "kind" then some (Value.int (kk : Int) a1) else m₁ y) "kind" = some (.int (kk : Int) a1) := by simp
    have qn' : (fun y : Str => if y = "kind" then some (Value.int (kk : Int) a1) else m₁ y) "number" = some (.int z t) := mset qn
    generalize (fun y : Str => if y = "kind" then some (Value.int (kk : Int) a1) else m₁ y) = m₄ at c₄ qk qn'
    refine assignInOrder_cons (assign_Name (st_cell2 (s := { s with heap := h₄, toks := t₄ }) 6 (by decide) (by decide) kF ki cI c₄ fun h₅ t₅ c₅ f₅ => ?_))
    rw [cupd] at c₅
    refine assignInOrder_cons (assign_Name (st_l (s := { s with heap := h₅, toks := t₅ }) kF hL kj c₅ fun h₆ t₆ c₆ f₆ => ?_))
    refine assignInOrder_nil ?_
    have qj : (fun y : Str => if y = "j" then some (Value.int (jj : Int) a3) else m₄ y) "j" = some (.int (jj : Int) a3) := by simp
    have qk' : (fun y : Str => if y = "j" then some (Value.int (jj : Int) a3) else m₄ y) "kind" = some (.int (kk : Int) a1) := mset qk
    have qn'' : (fun y : Str => if y = "j" then some (Value.int (jj : Int) a3) else m₄ y) "number" = some (.int z t) := mset qn'
    generalize (fun y : Str => if y = "j" then some (Value.int (jj : Int) a3) else m₄ y) = m₆ at c₆ qj qk' qn''
    have sf₆ : SmF w L h₆ Sl Mo its jts := (((sf₁.keeps k₃).fx c₃ ⟨_, _, qn⟩ f₄.fx).fx c₄ ⟨_, _, qk⟩ (but_fx (by decide) f₅)).fx c₅ ⟨_, _, qk⟩ f₆.fx
    have lo₆ : Lo L s.heap h₆ := lo_trans lo₁ (lo_trans (fun b o _ e => k₃ b o e) (lo_trans f₄.fx.lo (lo_trans (but_fx (by decide) f₅).lo f₆.fx.lo)))
    have wf₆ : ∀ b o, b ∉ [(L : Addr), ((L + 6 : Nat) : Addr), Sl, Mo] → h.get? b = some o → h₆.get? b = some o := fun b o hb e =>
      f₆ b o (fun z => hb (by rw [z]; exact .head _)) ((f₅.2 b (fun z => hb (by rw [z]; exact .tail _ (.head _)))).trans (f₄ b o (fun z => hb (by rw [z]; exact .head _)) (k₃ b o (wf₁ b o hb e))))
    clear c₃ c₄ c₅ c₁ f₄ f₅ f₆ sf₁ lo₁ wf₁ k₃ k₂ qk qn qn' nN
    obtain ⟨cm6, hcm6⟩ : ∃ cm6, cm6 = (fun j => if j = 6 then some (Value.int (ii : Int) a2) else cm j) := ⟨_, rfl⟩
    rw [← hcm6] at c₆
    have g4 : cm6 4 = some (.ref Mo) := by rw [hcm6]; simpa using h4
    have g5 : cm6 5 = some (.ref Sl) := by rw [hcm6]; simpa using h5
    have g6 : cm6 6 = some (.int (ii : Int) a2) := by rw [hcm6]; simp
    have nS : Nm env h₆ "slots" (.ref Sl) := nm_c 5 (by decide) (by decide) kF kSl cSl c₆ g5
    have nI : Nm env h₆ "i" (.int (ii : Int) a2) := nm_c 6 (by decide) (by decide) kF ki cI c₆ g6
    have nJ : Nm env h₆ "j" (.int (jj : Int) a3) := nm_l kF hL kj c₆ qj
    obtain ⟨x1, y1, D1, E1, i1, j1, p1⟩ := sf₆.all ii hii
    obtain ⟨x2, y2, D2, E2, i2, j2, p2⟩ := sf₆.all jj hjj
    refine wpAny_execs_cons ?_
    refine pair_lc (cm := cm6) kF hL ko kt ?hha ?hwa ?hxa (hs := ?hsa) (ha := ?haa)
    case hha => exact rm.1
    case hsa => rfl
    case haa => rfl
    case hwa => rw [← hE]; kernel_rfl
    refine (pe_at (w := w) (h := h₆) (k := ii) (P := fun v => v = .ref x1) (.name _ _) nS sf₆.l1 (by omega) (pe_nint nI) ⟨_, i1, rfl⟩) _ _ _ _ (rm.le (by decide)) (fun _ _ e => e) fun u1 s1 ks1 hu1 => ?_
    refine (pe_at (w := w) (h := h₆) (k := jj) (P := fun v => v = .ref x2) (.name _ _) nS sf₆.l1 (by omega) (pe_nint nJ) ⟨_, i2, rfl⟩) _ _ _ _ (rm.le (by decide)) (keeps_up ks1) fun u2 s2 ks2 hu2 => ?_
    subst hu1 hu2
    obtain ⟨h₇, t₇, rfl, k₇⟩ := keeps_trans ks1 ks2
    refine ⟨m₆, c₆.keeps k₇, fun h₈ t₈ ob lc => ?_⟩
    have r1 : (fun y : Str => if y = "one" then some (Value.ref x1) else if y = "other" then some (Value.ref x2) else m₆ y) "kind" = some (.int (kk : Int) a1) := mset2 qk'
    have r2 : (fun y : Str => if y = "one" then some (Value.ref x1) else if y = "other" then some (Value.ref x2) else m₆ y) "j" = some (.int (jj : Int) a3) := mset2 qj
    have r3 : (fun y : Str => if y = "one" then some (Value.ref x1) else if y = "other" then some (Value.ref x2) else m₆ y) "number" = some (.int z t) := mset2 qn''
    have r4 : (fun y : Str => if y = "one" then some (Value.ref x1) else if y = "other" then some (Value.ref x2) else m₆ y) "one" = some (.ref x1) := by simp
    have r5 : (fun y : Str => if y = "one" then some (Value.ref x1) else if y = "other" then some (Value.ref x2) else m₆ y) "other" = some (.ref x2) := by
      show (if ("other" : Str) = "one" then _ else if ("other" : Str) = "other" then _ else m₆ "other") = _
      rw [if_neg (by decide), if_pos rfl]
    have mid : Mid w L s.heap h h₈ Sl Mo its jts _ cm6 x1 y1 x2 y2 D1 E1 D2 E2 kk jj z := ⟨lc, ⟨_, r1⟩, ⟨_, r2⟩, ⟨_, r3⟩, r4, r5, (sf₆.keeps k₇).fx (c₆.keeps k₇) ⟨_, _, qj⟩ ob.fx, (p1.keeps k₇).fx (c₆.keeps k₇) qj ob.fx, (p2.keeps k₇).fx (c₆.keeps k₇) qj ob.fx,
      lo_trans lo₆ (lo_trans (fun b o _ e => k₇ b o e) ob.fx.lo), fun b o hb e => ob b o (fun z => hb (by rw [z]; exact .head _)) (k₇ b o (wf₆ b o hb e))⟩
    refine hTA (s := { s with heap := h₈, toks := t₈ }) hE rm W mid g4 ⟨_, g6⟩ hkk hii hjj j1 j2 fun m₉ mk du D D' h₉ t₉ q₉ v1 v2 pr => ?_
    refine hTB (s := { s with heap := h₉, toks := t₉ }) hE rm W q₉ g4 g5 ⟨_, g6⟩ hii hjj j1 j2 v1 v2 pr fun h₁₀ t₁₀ lc' sm'' lo'' wf'' => ?_
    exact ⟨rfl, h₁₀, t₁₀, rfl, ⟨m₉, some (.int (ii : Int) a2), by rw [hcm6] at lc'; exact lc', ⟨_, _, q₉.one⟩, sm'', lo''⟩, wf''⟩
  · rintro h₇ tk ⟨m', v6, lc₇, hv', sm', lo⟩
    have W₇ := W _ lo
    have g4 : (fun j => if j = 6 then v6 else cm j) 4 = some (.ref Mo) := by simpa using h4
    have g5 : (fun j => if j = 6 then v6 else cm j) 5 = some (.ref Sl) := by simpa using h5
    generalize (fun j => if j = 6 then v6 else cm j) = cm6 at lc₇ g4 g5
    have nall : Nm env h₇ "all" (.builtin "all") := nm_builtin W₇ kF (by rw [← hE]; kernel_rfl) (by rw [← hE]; kernel_rfl) (by rw [← hE]; kernel_rfl) (by kernel_rfl) (by boot_fast) (by decide)
    have nrg : Nm env h₇ "range" (.type "range") := nm_builtin W₇ kF (by rw [← hE]; kernel_rfl) (by rw [← hE]; kernel_rfl) (by rw [← hE]; kernel_rfl) (by kernel_rfl) (by boot_fast) (by decide)
    refine wpAny_execs_cons (wpAny_Return_some ?_)
    refine e_all (s := { s with heap := h₇, toks := tk }) (cl := [("slots", L + 5), ("models", L + 4)]) rm.1 nall (by rw [← hE]; kernel_rfl) (by decide) rfl (by decide) (by decide) ?_
    refine (it_range (s := { s with heap := h₇, toks := tk }) (n := 3) rm.1 nrg (by decide)) _ fun n' I' fp' h₈ t₈ St' hN hn' up₈ hI' hfp' hown' Wk' hst' => ?_
    subst hN
    have hI' : h₇.get? I' = none := hI'
    have live' : ∀ b o, h₇.get? b = some o → b ∉ [I'] := fun b o e => nin1 (fun z => by rw [show b = I' from z, hI'] at e; cases e)
    refine ⟨I', fp', [I'], _, _, St', rfl, walks_mono_P Wk' rfl (fun i v hi p => (⟨hi, p⟩ : i < 3 ∧ ∃ t, v = .int (i : Int) t)), by size_fits, hst', hfp', ?_, fun h₉ t₉ k₉ => ?_⟩
    · rintro C i v s₉ m₉ E₉ hC ⟨hi, t, rfl⟩ hn hm hk
      generalize hCE : compEnvC _ _ C env = ce
      have up₉ : Up h₇ s₉.heap := fun b o e => hk b o (live' b o e) (up₈ b o e)
      have W₉ := W₇.keeps up₉
      have a1 : Nm ce s₉.heap "slots" (.ref Sl) := nm_cell (by rw [← hCE]; kernel_rfl) (by rw [← hCE, ← hE]; kernel_rfl) (by rw [← hCE]; kernel_rfl) (g5 ▸ (lc₇.keeps up₉).cell 5 (by decide) (by decide))
      have a2 : Nm ce s₉.heap "models" (.ref Mo) := nm_cell (by rw [← hCE]; kernel_rfl) (by rw [← hCE, ← hE]; kernel_rfl) (by rw [← hCE]; kernel_rfl) (g4 ▸ (lc₇.keeps up₉).cell 4 (by decide) (by decide))
      have a3 : Nm ce s₉.heap "k" (.int (i : Int) t) := nm_local (by rw [← hCE]; kernel_rfl) (by rw [← hCE, ← hE]; kernel_rfl) (m := m₉) (by rw [← hCE]; exact hn) hm
      have a4 : Nm ce s₉.heap "_law_same" (.ref 90) := nm_global W₉ (by rw [← hCE]; kernel_rfl) (by rw [← hCE, ← hE]; kernel_rfl) (by rw [← hCE, ← hE]; kernel_rfl) (by kernel_rfl)
      exact el_same_copy (h := s.heap) (rm.le (by decide)) hi W₉ (sm'.keeps up₉) a1 a2 a3 a4
    · have up₉ : Up h₇ h₉ := fun b o e => k₉ b o (live' b o e) (up₈ b o e)
      exact hQ h₉ t₉ (lo_trans lo fun b o _ e => up₉ b o e)
end Mine
end

section
open PySem PySem.W PyProof.Rows PySem.Calls Builtin
set_option linter.unusedVariables false
namespace Mine
set_option maxRecDepth 100000
set_option maxHeartbeats 4000000

theorem law_body {w : World} {A : Around} {E : Value → Shared → Prop} {s : Shared} {env : Env} {L : Nat} {m : Str → Option Value} {cm : Nat → Option Value} {a : Addr} {cd : Value} {Q : Flow → Shared → Prop} {S : Addr} {n : Nat} {b : List Stmt}
    (hb : lawBd w = b) (hE : lawEnv w L a cd = env) (rm : Rm 90 A) (W₀ : Wd w s.heap) (hW : @LT.lt Nat _ 95 L) (c : LC L s.heap m cm) (h1 : cm 1 = some (.ref S)) (hS : LL s.heap S n AnyInt) (hSL : @LT.lt Nat _ S L) (hn : n ≤ 1000)
    (hQ : ∀ h' tk, Lo L s.heap h' → Q (.ret (.bool true)) { s with heap := h', toks := tk }) : wpAny (model pg w) A (execs b env) Q E s := by
  subst hb
  have W : ∀ h, Lo L s.heap h → Wd w h := fun h lo => W₀.low fun b o hb e => lo b o (Nat.lt_of_le_of_lt hb hW) e
  refine seg1 hE rm W₀ hW c h1 hS hSL hn fun m₁ P N PD h₁ t₁ c₁ q1 q2 hN oN hP iP oP hNP f₁ => ?_
  refine seg2 (s := { s with heap := h₁, toks := t₁ }) hE rm (W _ f₁.lo) hW c₁ q1 q2 hN oN fun m₂ v0 ks Rw Cn CD v h₂ t₂ c₂ r1 r2 hv hR hC hsame hin hkl hC0 oC oR f₂ => ?_
  have f12 : Fx L s.heap h₂ := f₁.trans f₂
  refine seg3 (s := { s with heap := h₂, toks := t₂ }) hE rm (W _ f12.lo) hW c₂ (P := P) (by simp) r1 r2 (hP.low fun o e => f₂ _ o oP e) iP oP hC oC hv hR oR hsame hin hkl fun Sl Mo h₃ t₃ c₃ sm f₃ => ?_
  have f13 : Fx L s.heap h₃ := f12.trans f₃
  refine seg4 (s := { s with heap := h₃, toks := t₃ }) (S := S) (Sl := Sl) (Mo := Mo) hE rm (W _ f13.lo) hW c₃ ⟨_, _, r1⟩ (by simpa using h1) (by simp) (by simp) (hS.at' fun o e => f13 _ o (.inl hSL) e) hn sm fun h' tk lo => ?_
  exact hQ h' tk (lo_trans f13.lo lo)
end Mine
end

section
open PySem PySem.W PyProof.Rows PySem.Calls Builtin
set_option linter.unusedVariables false
namespace Mine
set_option maxRecDepth 100000
set_option maxHeartbeats 8000000

theorem goodw_true {c : ClaimW} {cl : Str → Option Addr} {mean : ExcName → Option Value} {args : List WData} {s₁ s' : Shared} (k : ∀ b o, s₁.heap.get? b = some o → s'.heap.get? b = some o) (hg : s'.gens = #[]) (hn : ∀ cls, c.raises args cls = false) (hu : c.unshared = true → ([] : List Addr).Nodup ∧ ∀ a ∈ ([] : List Addr), s₁.heap.get? a = none)
    (hp : c.post args (.bool true) args = true) (hos : s'.os = s₁.os) : GoodW c cl mean args s₁ (.ok (.ret (.bool true))) s' :=
  ⟨.inl ⟨.bool true, .bool true, [], rfl, hn, .bool true, hp, hu⟩, k, hos, hg⟩
theorem rm_caller {env : Env} : Rm 90 (callerA.deeper env) := (show Rm 91 callerA from ⟨rfl, by decide, by decide⟩).deeper
theorem six (j : Nat) (h1 : 1 ≤ j) (h2 : j ≤ 6) : j = 1 ∨ j = 2 ∨ j = 3 ∨ j = 4 ∨ j = 5 ∨ j = 6 := by omega
theorem ints_at {vs : List Value} {ns : List Int} (h : IntsAre vs ns) : ∀ (i : Nat) v, vs.toArray[i]? = some v → AnyInt i v := by
  induction h with
  | nil => intro i v e; simp at e
  | cons n t r ih =>
    intro i v e
    rw [List.getElem?_toArray] at e
    cases i with
    | zero => simp at e; subst e; exact ⟨n, t, rfl⟩
    | succ j => rw [List.getElem?_cons_succ] at e; exact ih j v (by rw [List.getElem?_toArray]; exact e)
end Mine
set_option maxRecDepth 100000 in
set_option maxHeartbeats 8000000 in
theorem PySem.Challenge.cw_fq5030_01_holds : PySem.Challenge.rw_fq5030_01.Holds :=
  Mine.hd (by
  k_go0
  rename_i w s₀ s₁ mg mb G Y fa o pm doc ho hg KX X V GL T B TE TW wa wo M cd w12 hcd ns hs hlay0 hL0 hr1 hl2 wl10 wl9 lst vs wl6 hL ra w1 r0 hI hr hc1 hc2 K0 hD h₁ tk₁ F o6 o5 o4 o3 o2 o1 d6 d5 d4 d3 d2 d1 N0 X0
  have Ws : Mine.Wd w s₁.heap := ⟨KX, ⟨mg, mb, T.g, T.b, T.builtins⟩, T.nolimit⟩
  have W : Mine.Wd w h₁ := Ws.keeps F.keep
  have hlen : vs.length ≤ 63 := by have := hI.length; omega
  refine Mine.law_body (s := ⟨h₁, s₁.gens, s₁.drawn, tk₁, s₁.os⟩) (L := s₁.heap.objs.size) (a := fa) (cd := .ref cd) (S := lst) (n := vs.length) (cm := fun j => if j = 1 then some (.ref lst) else none) ?hb ?hE ?hrm W Ws.size ⟨F.ns, ?hcells⟩ rfl ⟨vs.toArray, Mine.isList_at hL (F.keep _), by simp, Mine.ints_at hI⟩ (let ⟨o, e, _⟩ := hL; Heap.lt_size e) (by omega) ?hQ
  case hb => kernel_rfl
  case hE => kernel_rfl
  case hrm => exact Mine.rm_caller
  case hcells =>
    intro j h1 h2
    rcases Mine.six j h1 h2 with rfl | rfl | rfl | rfl | rfl | rfl
    · exact ⟨o1, (N0 (_, o1) (by first | exact .head _ | exact .tail _ (.head _) | exact .tail _ (.tail _ (.head _)) | exact .tail _ (.tail _ (.tail _ (.head _))) | exact .tail _ (.tail _ (.tail _ (.tail _ (.head _)))) | exact .tail _ (.tail _ (.tail _ (.tail _ (.tail _ (.head _))))))).1, d1.trans (by kernel_rfl)⟩
    · exact ⟨o2, (N0 (_, o2) (by first | exact .head _ | exact .tail _ (.head _) | exact .tail _ (.tail _ (.head _)) | exact .tail _ (.tail _ (.tail _ (.head _))) | exact .tail _ (.tail _ (.tail _ (.tail _ (.head _)))) | exact .tail _ (.tail _ (.tail _ (.tail _ (.tail _ (.head _))))))).1, d2.trans (by kernel_rfl)⟩
    · exact ⟨o3, (N0 (_, o3) (by first | exact .head _ | exact .tail _ (.head _) | exact .tail _ (.tail _ (.head _)) | exact .tail _ (.tail _ (.tail _ (.head _))) | exact .tail _ (.tail _ (.tail _ (.tail _ (.head _)))) | exact .tail _ (.tail _ (.tail _ (.tail _ (.tail _ (.head _))))))).1, d3.trans (by kernel_rfl)⟩
    · exact ⟨o4, (N0 (_, o4) (by first | exact .head _ | exact .tail _ (.head _) | exact .tail _ (.tail _ (.head _)) | exact .tail _ (.tail _ (.tail _ (.head _))) | exact .tail _ (.tail _ (.tail _ (.tail _ (.head _)))) | exact .tail _ (.tail _ (.tail _ (.tail _ (.tail _ (.head _))))))).1, d4.trans (by kernel_rfl)⟩
    · exact ⟨o5, (N0 (_, o5) (by first | exact .head _ | exact .tail _ (.head _) | exact .tail _ (.tail _ (.head _)) | exact .tail _ (.tail _ (.tail _ (.head _))) | exact .tail _ (.tail _ (.tail _ (.tail _ (.head _)))) | exact .tail _ (.tail _ (.tail _ (.tail _ (.tail _ (.head _))))))).1, d5.trans (by kernel_rfl)⟩
    · exact ⟨o6, (N0 (_, o6) (by first | exact .head _ | exact .tail _ (.head _) | exact .tail _ (.tail _ (.head _)) | exact .tail _ (.tail _ (.tail _ (.head _))) | exact .tail _ (.tail _ (.tail _ (.tail _ (.head _)))) | exact .tail _ (.tail _ (.tail _ (.tail _ (.tail _ (.head _))))))).1, d6.trans (by kernel_rfl)⟩
  case hQ =>
    intro h' tk lo
    exact Mine.goodw_true (fun b o e => lo b o (Heap.lt_size e) (F.keep b o e)) hg (by intro cls; rfl) (fun _ => ⟨List.nodup_nil, fun a h => nomatch h⟩) (by kernel_rfl) rfl)
end
