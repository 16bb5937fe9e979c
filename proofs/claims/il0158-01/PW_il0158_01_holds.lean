import PyProof.Rows.All
import Wide.All
import OpenK.AllK
import Wide.FinOn
import PySem.Challenge.RW_il0158_01
open PySem PySem.W PyProof.Rows
set_option Elab.async false

section
open PySem PySem.W PyProof.Rows
namespace Mine
set_option maxRecDepth 100000
set_option maxHeartbeats 8000000
open_top hd for PySem.Challenge.rw_il0158_01
end Mine
end

section
open PySem PySem.W PySem.Calls PyProof.Rows Builtin Builtin.ObjectAttr
namespace Mine
set_option maxRecDepth 100000
set_option maxHeartbeats 1000000

abbrev PP : Program := PySem.Challenge.rw_il0158_01.row.prog

theorem entry_dictNew : entryFor table "dict.__new__" = some Builtin.«dict.__new__» := entryFor_of_tree (by kernel_rfl)
theorem entry_ddInit : entryFor table "collections.defaultdict.__init__" = some Builtin.«collections.defaultdict.__init__» := entryFor_of_tree (by kernel_rfl)
theorem entry_dictInit : entryFor table "dict.__init__" = some Builtin.«dict.__init__» := entryFor_of_tree (by kernel_rfl)

abbrev bookObj (dx : Addr) (es : List DictEntry) (ep : Nat) (lam : Value) : Obj :=
  { cls := .ref 65, dict := some dx, data := .dict es.toArray ep, slots := #[some lam] }
abbrev bookCls : ClassData := { name := "FreezableDefaultDict", bases := [.type "collections.defaultdict"], mro := [.ref 65, .type "collections.defaultdict", .type "dict", .type "object"], ns := 64, qualname := "FreezableDefaultDict", slotNames := [""] }
abbrev bookClsObj : Obj := { cls := .type "type", data := .cls bookCls, slots := #[some (.ref 40), none, some (.str "FreezableDefaultDict" 293), some (.str "FreezableDefaultDict" 301), some (.builtin "dict.__new__"), some (.bool true)] }

section
variable {w : World} {A : Around} {E : Value → Shared → Prop} {s : Shared} {h₀ : Heap} {L : Addr} {m : Str → Option Value}

theorem cls_init {h : Heap} (X : (hd.heap_39 w.params).In h) : Looks (model PP w) h (typeLookup (.ref 65) "__init__") (some (.builtin "collections.defaultdict.__init__")) :=
  looks_findIn X (by kernel_rfl)
theorem cls_call {h : Heap} (X : (hd.heap_39 w.params).In h) : Looks (model PP w) h (specialOf (.ref 65) "__call__") (some (.builtin "type.__call__")) :=
  looks_specialIn X (by kernel_rfl)
theorem cls_obj {h : Heap} (X : (hd.heap_39 w.params).In h) : h.get? 65 = some bookClsObj := X 65 bookClsObj (by kernel_rfl)
theorem cls_typ {h : Heap} (X : (hd.heap_39 w.params).In h) : Looks (model PP w) h (isInstance (.ref 65) (.type "type")) true := looks_instIn X (by kernel_rfl)

theorem cls_madeBy {h : Heap} (X : (hd.heap_39 w.params).In h) : Looks (model PP w) h (Bind.madeBy (.ref 65)) (some "dict.__new__") := by
  have hC := cls_obj X
  have hm : Looks (model PP w) h (mroOf (.ref 65)) bookCls.mro := ((Looks.ld (part := none) hC).andThen .now).andThen .now
  intro A Q E s k q
  unfold Bind.madeBy
  refine wpAny_bind (hm A _ E s k ?_)
  show wpAny _ _ (forIn [Value.ref 65, .type "collections.defaultdict", .type "dict", .type "object"] _ _ >>= _) _ _ _
  rw [List.forIn_cons]
  refine wpAny_bind (wpAny_bind (wpAny_bind (wpAny_bind (wpAny_loadPart (k _ _ hC) (wpAny_pure ?_)))))
  exact wpAny_pure (wpAny_pure (wpAny_pure q))
theorem cls_staticBase {h : Heap} (X : (hd.heap_39 w.params).In h) : Looks (model PP w) h (Bind.staticBase (.ref 65)) (.ref 65) := by
  have hC := cls_obj X
  have hm : Looks (model PP w) h (mroOf (.ref 65)) bookCls.mro := ((Looks.ld (part := none) hC).andThen .now).andThen .now
  intro A Q E s k q
  unfold Bind.staticBase
  refine wpAny_bind (hm A _ E s k ?_)
  show wpAny _ _ (forIn [Value.ref 65, .type "collections.defaultdict", .type "dict", .type "object"] _ _ >>= _) _ _ _
  rw [List.forIn_cons]
  exact wpAny_bind (wpAny_bind (wpAny_bind (cls_madeBy X A _ E s k (wpAny_pure (wpAny_pure (wpAny_pure q))))))

theorem di_init {h : Heap} {g d t os} {b dx : Addr} (X : (hd.heap_39 w.params).In h) {sl : Array (Option Value)} (hb : h.get? b = some { cls := .ref 65, dict := some dx, data := .dict #[], slots := sl }) {R : Result → Shared → Prop}
    (hq : R (.ok (.ret .none)) ⟨h, g, d, t, os⟩) :
    codeAny (model PP w) A (.builtin "dict.__init__" ⟨[.ref b], []⟩) R ⟨h, g, d, t, os⟩ := by
  refine codeAny_builtin entry_dictInit ?_
  unfold Builtin.«dict.__init__»
  have t1 : Looks (model PP w) h (typeOf (.ref b)) (.ref 65) := (Looks.ld hb).andThen .now
  have o1 : Looks (model PP w) h (isSubtype (.ref 65) (.type "collections.OrderedDict")) false := looks_mroIn X (by kernel_rfl)
  repeat lk
  exact hq

theorem nd_update {α : Type} {M : Model} {Q : α → Shared → Prop} {s : Shared} {k : Unit → Sem α} {a : Addr} {p : Option Value} {f : Obj → Obj} {o : Obj} (ho : s.heap.get? a = some o) (h : wpAny M A (k ()) Q E { s with heap := s.heap.update a f }) : wpAny M A (.update a p f k) Q E s :=
  fun Γ q hΓ => by rw [Sem.wp_update]; exact ⟨by rw [ho]; rfl, h Γ q hΓ⟩

theorem bslot {prog : Program} {s : Shared} {R : Result → Shared → Prop} (id owner n : String) {b : Builtin} (self : Value) (rest : List Value) (hp : plainId id = true) (hk : builtinKind id = some .slot) (hs : splitId id = some (owner, n))
    (he : entryFor table id = some b) (hi : Looks (model prog w) s.heap (isInstance self (.type owner)) true) (ha : argsOk id ⟨self :: rest, []⟩)
    (h : wpAny (model prog w) A.in1 (b ⟨self :: rest, []⟩) (fun fin s' => match fin with | .done f => R (.ok f) s' | .again c' => c'.quiet = true ∧ codeAny (model prog w) A c' R s') (fun e s' => R (.error e) s') s) :
    codeAny (model prog w) A (.call (.builtin id) ⟨self :: rest, []⟩) R s :=
  codeAny_call_builtin hp he (check_slot (i := id) (owner := owner) (n := n) (self := self) (rest := rest) (kw := []) hk hs hi ha h)

theorem dd_init_kind : builtinKind "collections.defaultdict.__init__" = some .slot := by decide +kernel
theorem dd_init_split : splitId "collections.defaultdict.__init__" = some ("collections.defaultdict", "__init__") := by decide +kernel
theorem dd_init {h : Heap} {g d t os} {b dx : Addr} {f : Addr} {fo : Obj} (X : (hd.heap_39 w.params).In h) (hbK : ∀ a o, (hd.heap_39 w.params).lookup a = some o → a ≠ b) (hf : h.get? f = some fo) (hfc : fo.cls = .type "function")
    (hb : h.get? b = some { cls := .ref 65, dict := some dx, data := .dict #[] }) {R : Result → Shared → Prop}
    (hq : ∀ H' : Heap, H'.get? b = some (bookObj dx [] 0 (.ref f)) → (∀ b' o, b' ≠ b → h.get? b' = some o → H'.get? b' = some o) → H'.objs.size = h.objs.size → R (.ok (.ret .none)) ⟨H', g, d, t, os⟩) :
    codeAny (model PP w) A (.call (.builtin "collections.defaultdict.__init__") ⟨[.ref b, .ref f], []⟩) R ⟨h, g, d, t, os⟩ := by
  have t1 : Looks (model PP w) h (typeOf (.ref b)) (.ref 65) := (Looks.ld hb).andThen .now
  have i1 : Looks (model PP w) h (isInstance (.ref b) (.type "collections.defaultdict")) true := t1.andThen (looks_mroIn X (by kernel_rfl))
  have ha : argsOk "collections.defaultdict.__init__" ⟨[.ref b, .ref f], []⟩ := by unfold argsOk; kernel_rfl
  refine bslot "collections.defaultdict.__init__" "collections.defaultdict" "__init__" (.ref b) [.ref f] (by decide +kernel) dd_init_kind dd_init_split entry_ddInit i1 ha ?_
  unfold Builtin.«collections.defaultdict.__init__»
  have tf : Looks (model PP w) h (typeOf (.ref f)) fo.cls := (Looks.ld hf).andThen .now
  rw [hfc] at tf
  have cf : Looks (model PP w) h (typeLookup (.type "function") "__call__") (some (.builtin "function.__call__")) := Looks.of_pure (by rw [typeLookup_type, builtinLookup_eq_fast]; kernel_rfl)
  repeat lk
  refine nd_update hb ?_
  have hb' : (h.update b fun o => { cls := o.cls, dict := o.dict, data := o.data, slots := (o.slots ++ Array.replicate (0 + 1 - o.slots.size) none).setIfInBounds 0 (some (.ref f)) }).get? b = some { cls := .ref 65, dict := some dx, data := .dict #[], slots := #[some (.ref f)] } := Heap.get?_update_self _ hb rfl
  have kp : ∀ b' o, b' ≠ b → h.get? b' = some o → (h.update b fun o => { cls := o.cls, dict := o.dict, data := o.data, slots := (o.slots ++ Array.replicate (0 + 1 - o.slots.size) none).setIfInBounds 0 (some (.ref f)) }).get? b' = some o := fun b' o n e => (Heap.get?_update_other h _ (Ne.symm n)).trans e
  have X' : (hd.heap_39 w.params).In (h.update b fun o => { cls := o.cls, dict := o.dict, data := o.data, slots := (o.slots ++ Array.replicate (0 + 1 - o.slots.size) none).setIfInBounds 0 (some (.ref f)) }) := fun a o e => kp a o (hbK a o e) (X a o e)
  repeat (first | with_reducible refine wpAny_runValue ?_ | lk)
  refine di_init X' hb' ?_
  repeat lk
  exact hq _ hb' kp (Heap.size_after_update _ _ _)

theorem mk_book {h : Heap} {g d t os} {f : Addr} {fo : Obj} (X : (hd.heap_39 w.params).In h) (hf : h.get? f = some fo) (hfc : fo.cls = .type "function") {R : Result → Shared → Prop}
    (hq : ∀ H' : Heap, (∀ b o, h.get? b = some o → H'.get? b = some o) → H'.get? (h.objs.size + 1) = some (bookObj h.objs.size [] 0 (.ref f)) → H'.get? h.objs.size = some (dictOf [] 0) → H'.objs.size = h.objs.size + 2 →
      R (.ok (.ret (.ref (h.objs.size + 1)))) ⟨H', g, d, t, os⟩) :
    codeAny (model PP w) A (.call (.ref 65) ⟨[.ref f], []⟩) R ⟨h, g, d, t, os⟩ := by
  have hC := cls_obj X
  have call := cls_call X
  refine codeAny_of_tree ?_
  show wpAny _ _ (callAny (.ref 65) _) _ _ _
  refine nd_load hC ?_
  show wpAny _ _ (callAny.viaDunder (.ref 65) _) _ _ _
  unfold callAny.viaDunder
  refine wpAny_bind (call.at ?_)
  dsimp only
  rw [tc_bind]
  refine wpAny_bind (wpAny_pure (wpAny_bind (wpAny_pure ?_)))
  refine wpAny_pure (a := Fin.again (.call (.builtin "type.__call__") ⟨.ref 65 :: [.ref f], []⟩)) (And.intro rfl ?_)
  refine codeAny_call_builtin_at (Code.quiet_builtin _ (by decide +kernel)) entry_typeCall (check_slot tc_kind tc_split (cls_typ X) (tc_args _ _ _) ?_)
  unfold Builtin.«type.__call__»
  have hm : Looks (model PP w) h (mroOf (.ref 65)) bookCls.mro := ((Looks.ld (part := none) hC).andThen .now).andThen .now
  repeat (first | with_reducible refine wpAny_call ?_ | lk)
  refine codeAny_call_builtin_code (Code.quiet_builtin _ (by decide +kernel)) ?_
  have kind : builtinKind "dict.__new__" = some .builtinFn := by decide +kernel
  have spl : splitId "dict.__new__" = some ("dict", "__new__") := by decide +kernel
  have hmb := cls_madeBy X
  have hsb := cls_staticBase X
  have hsub : Looks (model PP w) h (isSubtype (.ref 65) (.type "dict")) true := looks_mroIn X (by kernel_rfl)
  have hio : Looks (model PP w) h (isType (.ref 65)) true := (Looks.ld (part := some headPart) hC).andThen .now
  simp only [checkBuiltinCall, kind, spl]
  repeat lk
  refine codeAny_builtin entry_dictNew ?_
  unfold Builtin.«dict.__new__»
  have hC2 : (h.push (dictOf [] 0)).get? 65 = some bookClsObj := Heap.get?_push_of_some _ hC
  have hC3 : ((h.push (dictOf [] 0)).push { cls := .ref 65, dict := some h.objs.size, data := .dict #[] }).get? 65 = some bookClsObj := Heap.get?_push_of_some _ hC2
  repeat lk
  rw [Heap.size_push]
  generalize hH : (h.push (dictOf [] 0)).push { cls := .ref 65, dict := some h.objs.size, data := .dict #[] } = H
  have kp : ∀ b o, h.get? b = some o → H.get? b = some o := fun b o e => hH ▸ Heap.get?_push_of_some _ (Heap.get?_push_of_some _ e)
  have hB : H.get? (h.objs.size + 1) = some { cls := .ref 65, dict := some h.objs.size, data := .dict #[] } := by rw [← hH, show h.objs.size + 1 = (h.push (dictOf [] 0)).objs.size by rw [Heap.size_push]]; exact Heap.get?_push_size _ rfl
  have hD : H.get? h.objs.size = some (dictOf [] 0) := by rw [← hH]; exact Heap.get?_push_of_some _ (Heap.get?_push_size _ rfl)
  have hSz : H.objs.size = h.objs.size + 2 := by rw [← hH, Heap.size_push, Heap.size_push]
  have XH := X.keeps kp
  have t1 : Looks (model PP w) H (typeOf (.ref (h.objs.size + 1))) (.ref 65) := (Looks.ld hB).andThen .now
  have i1 := cls_init XH
  have self1 : Looks (model PP w) H (isSubtype (.ref 65) (.ref 65)) true := looks_mroIn XH (by kernel_rfl)
  repeat (first | with_reducible refine wpAny_call ?_ | lk)
  have ne : ∀ b o, h.get? b = some o → b ≠ h.objs.size + 1 := fun b o e => Nat.ne_of_lt (Nat.lt_succ_of_lt (Heap.lt_size e))
  refine dd_init XH (fun a o e => ne a o (X a o e)) (kp _ _ hf) hfc hB fun H' hB' kp' sz => ?_
  repeat lk
  refine hq _ (fun b o e => kp' b o (ne b o e) (kp b o e)) hB' (kp' _ _ (Nat.ne_of_lt (Nat.lt_succ_self _)) hD) (sz.trans hSz)

end
end Mine
end

section
open PySem PySem.W PySem.Calls PyProof.Rows Builtin Builtin.ObjectAttr
namespace Mine
set_option maxRecDepth 100000
set_option maxHeartbeats 1000000

structure Row where
  key : Str
  tok : Tok
  addr : Addr
  vals : List Value
  ep : Nat
  places : List Int

abbrev entryOf (w : World) (r : Row) : DictEntry := ⟨hashStr w r.key, .str r.key r.tok, .ref r.addr⟩

abbrev K1 (w : World) : KeyKind PP w Str := PySem.strKind PP w

theorem isStrOf_self (k : Str) (t : Tok) : Value.isStrOf k (.str k t) = true := by simp [Value.isStrOf]
theorem findBy_rows (w : World) (k : Str) (rows : List Row) : findBy Value.isStrOf (rows.map (entryOf w)).toArray k = (rows.find? (fun r => r.key == k)).map fun r => .ref r.addr := by
  unfold findBy
  rw [List.find?_toArray, List.find?_map]
  cases h : List.find? ((fun e : DictEntry => Value.isStrOf k e.key) ∘ entryOf w) rows with
  | none => rw [show ((fun e : DictEntry => Value.isStrOf k e.key) ∘ entryOf w) = (fun r : Row => r.key == k) from rfl] at h; rw [h]; rfl
  | some r => rw [show ((fun e : DictEntry => Value.isStrOf k e.key) ∘ entryOf w) = (fun r : Row => r.key == k) from rfl] at h; rw [h]; rfl
theorem keysOf_rows (w : World) (rows : List Row) : KeysOf (K1 w) (rows.map (entryOf w)).toArray := by
  intro e he
  obtain ⟨r, _, rfl⟩ := List.mem_map.mp (by simpa using he)
  exact ⟨r.key, isStrOf_self r.key r.tok, rfl⟩

theorem findIdx_rows (w : World) (k : Str) (rows : List Row) :
    ((rows.map (entryOf w)).toArray.findIdx? fun e => (K1 w).is k e.key) = rows.findIdx? (fun r => r.key == k) := by
  rw [List.findIdx?_toArray, List.findIdx?_map]
  rfl

section
variable {w : World} {A : Around} {E : Value → Shared → Prop} {s : Shared}

theorem dictFind_book {b dx : Addr} {rows : List Row} {ep : Nat} {lam : Value} {sl} {k : Str} {t : Tok} {Q : Option Nat → Shared → Prop} (hb : s.heap.get? b = some { cls := .ref 65, dict := some dx, data := .dict (rows.map (entryOf w)).toArray ep, slots := sl })
    (h : Q (rows.findIdx? (fun r => r.key == k)) s) : wpAny (model PP w) A (dictFind b (.str k t) (hashStr w k)) Q E s := by
  have := lam
  refine wpAny_dictFind_of (knd := K1 w) (k := k) (key := .str k t) (isStrOf_self k t) hb rfl (keysOf_rows w rows) ?_
  rw [findIdx_rows]; exact h

theorem dictGet_book {b dx : Addr} {rows : List Row} {ep : Nat} {sl} {k : Str} {t : Tok} {Q : Option Value → Shared → Prop} (hb : s.heap.get? b = some { cls := .ref 65, dict := some dx, data := .dict (rows.map (entryOf w)).toArray ep, slots := sl })
    (h : Q ((rows.find? (fun r => r.key == k)).map fun r => .ref r.addr) { s with toks := s.toks + 1 }) : wpAny (model PP w) A (dictGet b (.str k t)) Q E s := by
  unfold dictGet
  try with_reducible refine wpAny_holding ?_
  refine wpAny_bind (wpAny_pyHash_str (wpAny_bind (wpAny_dictFind_of (knd := K1 w) (k := k) (s := { s with toks := s.toks + 1 }) (isStrOf_self k t) hb rfl (keysOf_rows w rows) ?_)))
  have e := findBy_of_findIdx? Value.isStrOf (rows.map (entryOf w)).toArray k
  rw [findBy_rows] at e
  rw [e] at h
  change wpAny _ _ (match (rows.map (entryOf w)).toArray.findIdx? fun e => Value.isStrOf k e.key with | some i => _ | none => _) _ _ _
  cases hi : (rows.map (entryOf w)).toArray.findIdx? fun e => Value.isStrOf k e.key with
  | none => rw [hi] at h; exact wpAny_pure h
  | some i => rw [hi] at h; exact wpAny_bind (wpAny_dictEntries (s := { s with toks := s.toks + 1 }) hb rfl (wpAny_pure h))

theorem entry_dictGetitem : entryFor table "dict.__getitem__" = some Builtin.«dict.__getitem__» := entryFor_of_tree (by kernel_rfl)
theorem dg_kind : builtinKind "dict.__getitem__" = some .method := by decide +kernel
theorem dg_split : splitId "dict.__getitem__" = some ("dict", "__getitem__") := by decide +kernel
theorem dg_bind (self : Value) : bindSpecial (.builtin "dict.__getitem__") self = pure (.builtin "dict.__getitem__", [self]) :=
  (Slot.of (T := "dict") (name := "__getitem__") (owner := "dict") (n := "__getitem__") (by rw [typeLookup_type, builtinLookup_eq_fast]; kernel_rfl) (by decide +kernel) (by decide +kernel) (by decide +kernel)
    (.inr (by decide +kernel)) (by rw [isSubtype_type]; kernel_rfl)).bind self
theorem dg_args (a : Value) (x : Value) : argsOk "dict.__getitem__" ⟨[a, x], []⟩ := by unfold argsOk; kernel_rfl

theorem bmeth {prog : Program} {s : Shared} {R : Result → Shared → Prop} (id owner n : String) {b : Builtin} (self : Value) (rest : List Value) (hp : plainId id = true) (hk : builtinKind id = some .method) (hs : splitId id = some (owner, n))
    (he : entryFor table id = some b) (hi : Looks (model prog w) s.heap (isInstance self (.type owner)) true) (ha : argsOk id ⟨self :: rest, []⟩)
    (h : wpAny (model prog w) A.in1 (b ⟨self :: rest, []⟩) (fun fin s' => match fin with | .done f => R (.ok f) s' | .again c' => c'.quiet = true ∧ codeAny (model prog w) A c' R s') (fun e s' => R (.error e) s') s) :
    codeAny (model prog w) A (.call (.builtin id) ⟨self :: rest, []⟩) R s :=
  codeAny_call_builtin hp he (kfo_check (i := id) (owner := owner) (n := n) (self := self) (rest := rest) (kw := []) hk hs hi ha h)

theorem book_getitem {b dx : Addr} {rows : List Row} {ep : Nat} {sl} {k : Str} {t : Tok} {Q : Value → Shared → Prop} {h : Heap} {g d tk os} (X : (hd.heap_39 w.params).In h) (hsm : (b == sysModules) = false)
    (hb : h.get? b = some { cls := .ref 65, dict := some dx, data := .dict (rows.map (entryOf w)).toArray ep, slots := sl })
    (hhit : ∀ r, rows.find? (fun r => r.key == k) = some r → Q (.ref r.addr) ⟨h, g, d, tk + 1, os⟩)
    (hmiss : rows.find? (fun r => r.key == k) = none → wpAny (model PP w) A.in1 (call (.ref 55) [.ref b, .str k t]) Q E ⟨h, g, d, tk + 1, os⟩) :
    wpAny (model PP w) A (call (.builtin "dict.__getitem__") [.ref b, .str k t]) Q E ⟨h, g, d, tk, os⟩ := by
  have t1 : Looks (model PP w) h (typeOf (.ref b)) (.ref 65) := (Looks.ld hb).andThen .now
  have i1 : Looks (model PP w) h (isInstance (.ref b) (.type "dict")) true := t1.andThen (looks_mroIn X (by kernel_rfl))
  refine wpAny_call (bmeth "dict.__getitem__" "dict" "__getitem__" (.ref b) [.str k t] (by decide +kernel) dg_kind dg_split entry_dictGetitem i1 (dg_args _ _) ?_)
  unfold Builtin.«dict.__getitem__»
  have s1 : Looks (model PP w) h (typeLookup (.ref 65) "__missing__") (some (.ref 55)) := looks_findIn X (by kernel_rfl)
  have bd : Looks (model PP w) h (bindSpecial (.ref 55) (.ref b)) (.ref 55, [.ref b]) := bind_fn X _ (by kernel_rfl)
  repeat (first | with_reducible refine dictGet_book hb ?_ | lk)
  dsimp only
  cases hf : rows.find? (fun r => r.key == k) with
  | some r => exact wpAny_pure (hhit r hf)
  | none =>
    dsimp only [Option.map_none]
    have ms : Dict.missed b (.str k t) = pure none := by unfold Dict.missed; rw [hsm]; rfl
    rw [ms]
    repeat (first | ((with_reducible show wpAny _ _ (call _ _ _) _ _ _); refine wpAny_mono (hmiss hf) ?_ (fun _ _ e => e); intro v s' hv) | lk)
    exact hv

theorem book_sub {value slice : Expr} {b dx : Addr} {rows : List Row} {ep : Nat} {sl} {k : Str} {t : Tok} {Q : Value → Shared → Prop} {h : Heap} {g d tk os} (X : (hd.heap_39 w.params).In h) (hsm : (b == sysModules) = false)
    (hb : h.get? b = some { cls := .ref 65, dict := some dx, data := .dict (rows.map (entryOf w)).toArray ep, slots := sl })
    (hhit : ∀ r, rows.find? (fun r => r.key == k) = some r → Q (.ref r.addr) ⟨h, g, d, tk + 1, os⟩)
    (hmiss : rows.find? (fun r => r.key == k) = none → wpAny (model PP w) A.in1 (call (.ref 55) [.ref b, .str k t]) Q E ⟨h, g, d, tk + 1, os⟩)
    (hsl : subscripted slice false (.ref b) (.str k t) = operate [.ref b, .str k t] (getItem (.ref b) (.str k t)) := by with_unfolding_all rfl) :
    wpAny (model PP w) A (subscriptTail value slice (.ref b) (.str k t)) Q E ⟨h, g, d, tk, os⟩ := by
  have t1 : Looks (model PP w) h (typeOf (.ref b)) (.ref 65) := (Looks.ld hb).andThen .now
  have s1 : Looks (model PP w) h (typeLookup (.ref 65) "__getitem__") (some (.builtin "dict.__getitem__")) := looks_findIn X (by kernel_rfl)
  have bd : Looks (model PP w) h (bindSpecial (.builtin "dict.__getitem__") (.ref b)) (.builtin "dict.__getitem__", [.ref b]) := .of_pure (dg_bind _)
  have sq : Looks (model PP w) h (seqItemTypes.anyM fun n => isSubtype (.ref 65) (.type n)) false := anyM_none X (by kernel_rfl)
  unfold subscriptTail getitemInPython
  refine wpAny_bind (wpAny_bind (wpAny_bind (t1.here (s1.here (wpAny_pure ?_)))))
  rw [hsl]
  refine wpAny_bind (wpAny_operating ?_)
  unfold getItem sequenceKey
  refine wpAny_holding (wpAny_bind (wpAny_bind (t1.here ?_)))
  refine wpAny_bind (sq.here ?_)
  rw [if_pos (show (!false) = true from rfl)]
  refine wpAny_pure (wpAny_bind ?_)
  repeat (first | ((with_reducible show wpAny _ _ (call _ _ _) _ _ _); refine book_getitem X hsm hb ?_ ?_) | lk)
  · intro r hr
    refine wpAny_pure (wpAny_pure ?_)
    exact wpAny_bind (wpAny_letTemporaryGo (wpAny_pure (hhit r hr)))
  · intro hr
    refine wpAny_mono (hmiss hr) (fun v s' hv => ?_) (fun _ _ e => e)
    refine wpAny_pure (wpAny_pure ?_)
    exact wpAny_bind (wpAny_letTemporaryGo (wpAny_pure hv))

end
end Mine
end

section
open PySem PySem.W PySem.Calls PyProof.Rows Builtin Builtin.ObjectAttr
namespace Mine
set_option maxRecDepth 100000
set_option maxHeartbeats 1000000

section
variable {w : World} {A : Around} {E : Value → Shared → Prop} {h : Heap} {g : Array GenState} {d : Drawn} {tk : Nat} {os : OsState}
variable {b dx : Addr} {es : Array DictEntry} {ep : Nat} {sl : Array (Option Value)} {od : Obj}

theorem entry_ddGa : entryFor table "collections.defaultdict.__getattribute__" = some Builtin.«object.__getattribute__» :=
  entryFor_alias (id' := "object.__getattribute__") (by kernel_rfl) (by decide +kernel) (by decide +kernel) (by kernel_rfl)
theorem ga_kind : builtinKind "collections.defaultdict.__getattribute__" = some .slot := by decide +kernel
theorem ga_split : splitId "collections.defaultdict.__getattribute__" = some ("collections.defaultdict", "__getattribute__") := by decide +kernel
theorem ga_args (a x : Value) : argsOk "collections.defaultdict.__getattribute__" ⟨[a, x], []⟩ := by unfold argsOk; kernel_rfl
theorem ga_bind (self : Value) : bindSpecial (.builtin "collections.defaultdict.__getattribute__") self = pure (.builtin "collections.defaultdict.__getattribute__", [self]) :=
  (Slot.of (T := "collections.defaultdict") (name := "__getattribute__") (owner := "collections.defaultdict") (n := "__getattribute__") (by rw [typeLookup_type, builtinLookup_eq_fast]; kernel_rfl) (by decide +kernel) (by decide +kernel) (by decide +kernel)
    (.inl (by decide +kernel)) (by rw [isSubtype_type]; kernel_rfl)).bind self

theorem book_type (hb : h.get? b = some ⟨.ref 65, some dx, .dict es ep, sl⟩) : Looks (model PP w) h (typeOf (.ref b)) (.ref 65) := (Looks.ld hb).andThen .now
theorem book_isdd (X : (hd.heap_39 w.params).In h) (hb : h.get? b = some ⟨.ref 65, some dx, .dict es ep, sl⟩) : Looks (model PP w) h (isInstance (.ref b) (.type "collections.defaultdict")) true := (book_type hb).andThen (looks_mroIn X (by kernel_rfl))

theorem find_frozen_none (X : (hd.heap_39 w.params).In h) (hb : h.get? b = some ⟨.ref 65, some dx, .dict es ep, sl⟩) (hd : h.get? dx = some od) (hl : lookIn "_frozen" od = some none) :
    Looks (model PP w) h (find (.ref b) (.ref 65) "_frozen") .missing := by
  intro A Q E s k q
  obtain ⟨h', g, d, tk, os⟩ := s
  have X' := X.keeps k
  have hb' := k _ _ hb
  have hd' := k _ _ hd
  have t1 : Looks (model PP w) h' (typeLookup (.ref 65) "_frozen") none := looks_findIn X' (by kernel_rfl)
  have l1 : Looks (model PP w) h' (nsGet dx "_frozen") none := fun A Q E s k q => wpAny_bind (wpAny_loadPart (k _ _ hd') (by rw [nsLook_of hl]; exact wpAny_pure q))
  have hC := cls_obj X'
  unfold find
  repeat lk
  exact q

theorem find_frozen_some {v : Value} (X : (hd.heap_39 w.params).In h) (hb : h.get? b = some ⟨.ref 65, some dx, .dict es ep, sl⟩) (hd : h.get? dx = some od) (hl : lookIn "_frozen" od = some (some v)) :
    Looks (model PP w) h (find (.ref b) (.ref 65) "_frozen") (.value v) := by
  intro A Q E s k q
  obtain ⟨h', g, d, tk, os⟩ := s
  have X' := X.keeps k
  have hb' := k _ _ hb
  have hd' := k _ _ hd
  have t1 : Looks (model PP w) h' (typeLookup (.ref 65) "_frozen") none := looks_findIn X' (by kernel_rfl)
  have l1 : Looks (model PP w) h' (nsGet dx "_frozen") (some v) := fun A Q E s k q => wpAny_bind (wpAny_loadPart (k _ _ hd') (by rw [nsLook_of hl]; exact wpAny_pure q))
  have hC := cls_obj X'
  unfold find
  repeat lk
  exact q

theorem getattr_frozen_some {u : Tok} {fill : Bool} {lf : Addr} {Q : Value → Shared → Prop} (X : (hd.heap_39 w.params).In h) (hb : h.get? b = some ⟨.ref 65, some dx, .dict es ep, sl⟩) (hd : h.get? dx = some od) (hl : lookIn "_frozen" od = some (some (.ref lf)))
    (q : Q (.ref lf) ⟨h, g, d, tk, os⟩) : wpAny (model PP w) A (getAttrBy (.ref b) (.str "_frozen" u) fill) Q E ⟨h, g, d, tk, os⟩ := by
  have ht := book_type (w := w) hb
  have f1 := find_frozen_some X hb hd hl
  have g1 : Looks (model PP w) h (typeLookup (.ref 65) "__getattribute__") (some (.builtin "collections.defaultdict.__getattribute__")) := looks_findIn X (by kernel_rfl)
  have g2 : Looks (model PP w) h (typeLookup (.ref 65) "__getattr__") none := looks_findIn X (by kernel_rfl)
  have g3 : Looks (model PP w) h (bindSpecial (.builtin "collections.defaultdict.__getattribute__") (.ref b)) (.builtin "collections.defaultdict.__getattribute__", [.ref b]) := .of_pure (ga_bind _)
  unfold getAttrBy
  repeat (first | ((with_reducible show wpAny _ _ (call _ _ _) _ _ _); refine wpAny_call (bslot "collections.defaultdict.__getattribute__" "collections.defaultdict" "__getattribute__" (.ref b) [.str "_frozen" u] (by decide +kernel) ga_kind ga_split entry_ddGa (book_isdd X hb) (ga_args _ _) ?_)) | with_reducible refine wpAny_attempt ?_ | lk)
  exact q

theorem attrMsg_ok : (((toString "'" ++ toString (Str.toString "FreezableDefaultDict") ++ toString "' object has no attribute '" : String) : Str) ++ ("_frozen" : Str) ++ ("'" : Str)).length ≤ sizeLine := by decide +kernel
theorem getattr_frozen_none {u : Tok} {Q : Option Value → Shared → Prop} (hh : A.handled = none) (X : (hd.heap_39 w.params).In h) (hb : h.get? b = some ⟨.ref 65, some dx, .dict es ep, sl⟩) (hd : h.get? dx = some od) (hl : lookIn "_frozen" od = some none)
    (q : ∀ h' tk', (∀ b o, h.get? b = some o → h'.get? b = some o) → Q none ⟨h', g, d, tk', os⟩) : wpAny (model PP w) A (getAttrBy? (.ref b) (.str "_frozen" u)) Q E ⟨h, g, d, tk, os⟩ := by
  have ht := book_type (w := w) hb
  have hC := cls_obj X
  have f1 := find_frozen_none X hb hd hl
  have g1 : Looks (model PP w) h (typeLookup (.ref 65) "__getattribute__") (some (.builtin "collections.defaultdict.__getattribute__")) := looks_findIn X (by kernel_rfl)
  have g2 : Looks (model PP w) h (typeLookup (.ref 65) "__getattr__") none := looks_findIn X (by kernel_rfl)
  have g3 : Looks (model PP w) h (bindSpecial (.builtin "collections.defaultdict.__getattribute__") (.ref b)) (.builtin "collections.defaultdict.__getattribute__", [.ref b]) := .of_pure (ga_bind _)
  unfold getAttrBy? getAttrBy
  repeat (first | ((with_reducible show wpAny _ _ (call _ _ _) _ _ _); refine wpAny_call (bslot "collections.defaultdict.__getattribute__" "collections.defaultdict" "__getattribute__" (.ref b) [.str "_frozen" u] (by decide +kernel) ga_kind ga_split entry_ddGa (book_isdd X hb) (ga_args _ _) ?_)) | with_reducible refine wpAny_attempt ?_ | ((with_reducible show wpAny _ _ (raiseAttrError _ _ _) _ _ _); refine wpAny_raiseAttrError hh ?_ ?_; rotate_left; exact attrMsg_ok; intro h' tk' e he) | lk)
  obtain ⟨keeps, new, t, u', there⟩ := he
  dsimp only
  have e1 : Looks (model PP w) h' (isSubtype (.type "AttributeError") (.type "AttributeError")) true := .of_pure sub_AttributeError
  repeat (first | with_reducible refine wpAny_throw ?_ | lk)
  exact q _ _ keeps

/-- a dict without the name -/
theorem freeze_method {pl : Sem Bool} {Q : Value × List Value → Shared → Prop} (X : (hd.heap_39 w.params).In h) (hb : h.get? b = some ⟨.ref 65, some dx, .dict es ep, sl⟩) (hd : h.get? dx = some od) (hl : lookIn "freeze" od = some none)
    (q : Q (.ref 62, [.ref b]) ⟨h, g, d, tk, os⟩) : wpAny (model PP w) A (getMethod (.ref b) "freeze" pl) Q E ⟨h, g, d, tk, os⟩ := by
  have ht := book_type (w := w) hb
  have g1 : Looks (model PP w) h (typeLookup (.ref 65) "__getattribute__") (some (.builtin "collections.defaultdict.__getattribute__")) := looks_findIn X (by kernel_rfl)
  have g2 : Looks (model PP w) h (typeLookup (.ref 65) "__getattr__") none := looks_findIn X (by kernel_rfl)
  have g3 : Looks (model PP w) h (typeLookup (.ref 65) "freeze") (some (.ref 62)) := looks_findIn X (by kernel_rfl)
  have g4 : Looks (model PP w) h (typeOf (.ref 62)) (.type "function") := looks_typeIn X (by kernel_rfl)
  have l1 : Looks (model PP w) h (nsGet dx "freeze") none := fun A Q E s k q => wpAny_bind (wpAny_loadPart (k _ _ hd) (by rw [nsLook_of hl]; exact wpAny_pure q))
  unfold getMethod
  repeat lk
  exact q
theorem items_method {pl : Sem Bool} {Q : Value × List Value → Shared → Prop} (X : (hd.heap_39 w.params).In h) (hb : h.get? b = some ⟨.ref 65, some dx, .dict es ep, sl⟩) (hd : h.get? dx = some od) (hl : lookIn "items" od = some none)
    (q : Q (.builtin "dict.items", [.ref b]) ⟨h, g, d, tk, os⟩) : wpAny (model PP w) A (getMethod (.ref b) "items" pl) Q E ⟨h, g, d, tk, os⟩ := by
  have ht := book_type (w := w) hb
  have g1 : Looks (model PP w) h (typeLookup (.ref 65) "__getattribute__") (some (.builtin "collections.defaultdict.__getattribute__")) := looks_findIn X (by kernel_rfl)
  have g2 : Looks (model PP w) h (typeLookup (.ref 65) "__getattr__") none := looks_findIn X (by kernel_rfl)
  have g3 : Looks (model PP w) h (typeLookup (.ref 65) "items") (some (.builtin "dict.items")) := looks_findIn X (by kernel_rfl)
  have g4 : Looks (model PP w) h (typeOf (.builtin "dict.items")) (.type "method_descriptor") := looks_typeIn X (by kernel_rfl)
  have l1 : Looks (model PP w) h (nsGet dx "items") none := fun A Q E s k q => wpAny_bind (wpAny_loadPart (k _ _ hd) (by rw [nsLook_of hl]; exact wpAny_pure q))
  unfold getMethod
  repeat lk
  exact q
end
end Mine
end

section
open PySem PySem.W PySem.Calls PyProof.Rows Builtin Builtin.ObjectAttr
namespace Mine
set_option maxRecDepth 100000
set_option maxHeartbeats 1000000

section
variable {w : World} {A : Around} {E : Value → Shared → Prop} {h : Heap} {g : Array GenState} {d : Drawn} {tk : Nat} {os : OsState}
variable {b dx : Addr} {es : Array DictEntry} {ep : Nat} {sl : Array (Option Value)} {od : Obj}

theorem entry_memGet : entryFor table "member_descriptor.__get__" = some Builtin.«member_descriptor.__get__» := entryFor_of_tree (by kernel_rfl)
theorem entry_dfact : entryFor table "collections.defaultdict.default_factory" = some Builtin.«collections.defaultdict.default_factory» := entryFor_of_tree (by kernel_rfl)
theorem mg_kind : builtinKind "member_descriptor.__get__" = some .slot := by decide +kernel
theorem mg_split : splitId "member_descriptor.__get__" = some ("member_descriptor", "__get__") := by decide +kernel
theorem mg_args (a x y : Value) : argsOk "member_descriptor.__get__" ⟨[a, x, y], []⟩ := by unfold argsOk; kernel_rfl

theorem attr_default_factory {expr : Bool} {lf : Addr} {Q : Value → Shared → Prop} (X : (hd.heap_39 w.params).In h) (hb : h.get? b = some ⟨.ref 65, some dx, .dict es ep, #[some (.ref lf)]⟩)
    (q : Q (.ref lf) ⟨h, g, d, tk + 1, os⟩) : wpAny (model PP w) A (getAttr (.ref b) "default_factory" expr) Q E ⟨h, g, d, tk, os⟩ := by
  have ht := book_type (w := w) hb
  have hC := cls_obj X
  have g1 : Looks (model PP w) h (typeLookup (.ref 65) "__getattribute__") (some (.builtin "collections.defaultdict.__getattribute__")) := looks_findIn X (by kernel_rfl)
  have g2 : Looks (model PP w) h (typeLookup (.ref 65) "__getattr__") none := looks_findIn X (by kernel_rfl)
  have g3 : Looks (model PP w) h (bindSpecial (.builtin "collections.defaultdict.__getattribute__") (.ref b)) (.builtin "collections.defaultdict.__getattribute__", [.ref b]) := .of_pure (ga_bind _)
  have f1 : Looks (model PP w) h (typeLookup (.ref 65) "default_factory") (some (.builtin "collections.defaultdict.default_factory")) := looks_findIn X (by kernel_rfl)
  have f2 : Looks (model PP w) h (specialOf (.builtin "collections.defaultdict.default_factory") "__get__") (some (.builtin "member_descriptor.__get__")) := looks_specialIn X (by kernel_rfl)
  have f3 : Looks (model PP w) h (takesStores (.builtin "collections.defaultdict.default_factory")) true := looks_takesIn X (by kernel_rfl)
  have f4 : Looks (model PP w) h (isInstance (.builtin "collections.defaultdict.default_factory") (.type "member_descriptor")) true := looks_instIn X (by kernel_rfl)
  have f5 := book_isdd X hb
  unfold getAttr getAttrBy
  cases expr
  all_goals repeat (first | ((with_reducible show wpAny _ _ (call (.builtin "collections.defaultdict.__getattribute__") _ _) _ _ _); refine wpAny_call (bslot "collections.defaultdict.__getattribute__" "collections.defaultdict" "__getattribute__" (.ref b) [.str "default_factory" tk] (by decide +kernel) ga_kind ga_split entry_ddGa (book_isdd X hb) (ga_args _ _) ?_)) | ((with_reducible show wpAny _ _ (call (.builtin "member_descriptor.__get__") _ _) _ _ _); refine wpAny_call (bslot "member_descriptor.__get__" "member_descriptor" "__get__" (.builtin "collections.defaultdict.default_factory") [.ref b, .ref 65] (by decide +kernel) mg_kind mg_split entry_memGet f4 (mg_args _ _ _) ?_)) | with_reducible refine wpAny_attempt ?_  | with_reducible refine wpAny_runValue ?_ | lk)
  all_goals
    refine ⟨Code.quiet_builtin _ (by decide +kernel), codeAny_builtin entry_dfact ?_⟩
    unfold Builtin.«collections.defaultdict.default_factory»
    repeat lk
    exact q

theorem osa_kind : builtinKind "object.__setattr__" = some .slot := by decide +kernel
theorem osa_split : splitId "object.__setattr__" = some ("object", "__setattr__") := by decide +kernel
theorem osa_args (a x y : Value) : argsOk "object.__setattr__" ⟨[a, x, y], []⟩ := by unfold argsOk; kernel_rfl
theorem osa_bind1 (self : Value) : bindSpecial (.builtin "object.__setattr__") self = pure (.builtin "object.__setattr__", [self]) :=
  (Slot.of (T := "object") (name := "__setattr__") (owner := "object") (n := "__setattr__") (by rw [typeLookup_type, builtinLookup_eq_fast]; kernel_rfl) (by decide +kernel) (by decide +kernel) (by decide +kernel)
    (.inl (by decide +kernel)) (by rw [isSubtype_type]; kernel_rfl)).bind self
theorem entry_osa1 : entryFor table "object.__setattr__" = some Builtin.«object.__setattr__» := entryFor_of_tree (by kernel_rfl)

theorem set_frozen {v : Value} {Q : Unit → Shared → Prop} (X : (hd.heap_39 w.params).In h) (hb : h.get? b = some ⟨.ref 65, some dx, .dict es ep, sl⟩) (hd : h.get? dx = some (dictOf [] 0))
    (q : ∀ h' tk' hs, (∀ a o, a ≠ dx → h.get? a = some o → h'.get? a = some o) → h'.get? dx = some (dictOf [⟨hs, .str "_frozen" (tk + 1), v⟩] 1) → h'.objs.size = h.objs.size → Q () ⟨h', g, d, tk', os⟩) :
    wpAny (model PP w) A (setAttr (.ref b) "_frozen" v) Q E ⟨h, g, d, tk, os⟩ := by
  have ht := book_type (w := w) hb
  have hC := cls_obj X
  have g1 : Looks (model PP w) h (typeLookup (.ref 65) "__setattr__") (some (.builtin "object.__setattr__")) := looks_findIn X (by kernel_rfl)
  have g3 : Looks (model PP w) h (bindSpecial (.builtin "object.__setattr__") (.ref b)) (.builtin "object.__setattr__", [.ref b]) := .of_pure (osa_bind1 _)
  have f1 : Looks (model PP w) h (typeLookup (.ref 65) "_frozen") none := looks_findIn X (by kernel_rfl)
  have f5 : Looks (model PP w) h (isInstance (.ref b) (.type "object")) true := ht.andThen (looks_mroIn X (by kernel_rfl))
  have hm : Looks (model PP w) h (mroOf (.ref 65)) bookCls.mro := ((Looks.ld (part := none) hC).andThen .now).andThen .now
  unfold setAttr
  repeat (first | ((with_reducible show wpAny _ _ (call _ _ _) _ _ _); refine wpAny_call (bslot "object.__setattr__" "object" "__setattr__" (.ref b) [.str "_frozen" tk, v] (by decide +kernel) osa_kind osa_split entry_osa1 f5 (osa_args _ _ _) ?_)) | lk)
  refine nd_update hd ?_
  generalize hhs : (if (Str.cps "_frozen").isEmpty = true then (0 : Int) else reduceHash ((model PP w).w.params.strHash (Str.cps "_frozen"))) = hs
  have kp : ∀ a o, a ≠ dx → h.get? a = some o → (h.update dx (Obj.putName "_frozen" hs (.str "_frozen" (tk + 1)) v)).get? a = some o := fun a o n e => (Heap.get?_update_other h _ (Ne.symm n)).trans e
  have hd' : (h.update dx (Obj.putName "_frozen" hs (.str "_frozen" (tk + 1)) v)).get? dx = some (dictOf [⟨hs, .str "_frozen" (tk + 1), v⟩] 1) := by
    have e : Obj.putName "_frozen" hs (.str "_frozen" (tk + 1)) v (dictOf [] 0) = dictOf [⟨hs, .str "_frozen" (tk + 1), v⟩] 1 := by rw [putName_dict]; rfl
    rw [← e]; exact Heap.get?_update_self _ hd (by rw [e]; rfl)
  refine nd_pure (wpAny_bind ?_)
  refine wpAny_lookBehind (o := dictOf [⟨hs, .str "_frozen" (tk + 1), v⟩] 1) hd' (pastItsLine_dict (by rw [sizeLine_eq]; simp)) ?_
  repeat lk
  exact q _ _ _ kp hd' (Heap.size_after_update _ _ _)
end
end Mine
end

section
open PySem PySem.W PySem.Calls PyProof.Rows Builtin Builtin.ObjectAttr
namespace Mine
set_option maxRecDepth 100000
set_option maxHeartbeats 1000000

section
variable {w : World} {A : Around} {E : Value → Shared → Prop} {h : Heap} {g : Array GenState} {d : Drawn} {tk : Nat} {os : OsState}
variable {b dx so : Addr} {es : Array DictEntry} {ep : Nat} {sl : Array (Option Value)} {od : Obj}

theorem entry_mdGet : entryFor table "method_descriptor.__get__" = some Builtin.«method_descriptor.__get__» := entryFor_of_tree (by kernel_rfl)
theorem mdg_kind : builtinKind "method_descriptor.__get__" = some .slot := by decide +kernel
theorem mdg_split : splitId "method_descriptor.__get__" = some ("method_descriptor", "__get__") := by decide +kernel
theorem mdg_args (a x y : Value) : argsOk "method_descriptor.__get__" ⟨[a, x, y], []⟩ := by unfold argsOk; kernel_rfl
theorem sga_kind : builtinKind "super.__getattribute__" = some .slot := by decide +kernel
theorem sga_split : splitId "super.__getattribute__" = some ("super", "__getattribute__") := by decide +kernel
theorem entry_sga : entryFor table "super.__getattribute__" = some Builtin.«super.__getattribute__» := entryFor_of_tree (by kernel_rfl)
theorem sga_args (a x : Value) : argsOk "super.__getattribute__" ⟨[a, x], []⟩ := by unfold argsOk; kernel_rfl

abbrev boundMissing (b : Addr) : Obj := { cls := .type "builtin_function_or_method", data := .fields #[.builtin "collections.defaultdict.__missing__", .ref b] }

theorem attr_super_missing {expr : Bool} {Q : Value → Shared → Prop} (X : (hd.heap_39 w.params).In h) (hb : h.get? b = some ⟨.ref 65, some dx, .dict es ep, sl⟩) (hso : h.get? so = some (ks_superObj 65 b 65))
    (q : Q (.ref h.objs.size) ⟨h.push (boundMissing b), g, d, tk + 1, os⟩) : wpAny (model PP w) A (getAttr (.ref so) "__missing__" expr) Q E ⟨h, g, d, tk, os⟩ := by
  have ht := book_type (w := w) hb
  have hC := cls_obj X
  have ts : Looks (model PP w) h (typeOf (.ref so)) (.type "super") := (Looks.ld hso).andThen .now
  have g1 : Looks (model PP w) h (typeLookup (.type "super") "__getattribute__") (some (.builtin "super.__getattribute__")) := looks_findIn X (by kernel_rfl)
  have g3 : Looks (model PP w) h (bindSpecial (.builtin "super.__getattribute__") (.ref so)) (.builtin "super.__getattribute__", [.ref so]) := .of_pure (F.ks_slot_super_ga.bind _)
  have i1 : Looks (model PP w) h (isInstance (.ref so) (.type "super")) true := ts.andThen (looks_subIn X (by kernel_rfl))
  have hno : Looks (model PP w) h (opaqueClassAbove (.ref 65)) none := looks_opaque X (by kernel_rfl)
  have hm : Looks (model PP w) h (mroOf (.ref 65)) bookCls.mro := ((Looks.ld (part := none) hC).andThen .now).andThen .now
  have c1 : Looks (model PP w) h (classOwn (.type "collections.defaultdict") "__missing__") (some (.builtin "collections.defaultdict.__missing__")) := looks_ownIn X (by kernel_rfl)
  have c2 : Looks (model PP w) h (typeOf (.builtin "collections.defaultdict.__missing__")) (.type "method_descriptor") := looks_typeIn X (by kernel_rfl)
  have c3 : Looks (model PP w) h (typeLookup (.type "method_descriptor") "__get__") (some (.builtin "method_descriptor.__get__")) := looks_findIn X (by kernel_rfl)
  have c4 : Looks (model PP w) h (isInstance (.builtin "collections.defaultdict.__missing__") (.type "method_descriptor")) true := looks_instIn X (by kernel_rfl)
  have f5 := book_isdd X hb
  have n65 : (Value.ref b == Value.ref 65) = false := by
    refine beq_eq_false_iff_ne.mpr fun e => ?_
    cases e
    rw [hC] at hb; cases hb
  unfold getAttr getAttrBy
  cases expr
  all_goals repeat (first | ((with_reducible show wpAny _ _ (call (.builtin "super.__getattribute__") _ _) _ _ _); refine wpAny_call (bslot "super.__getattribute__" "super" "__getattribute__" (.ref so) [.str "__missing__" tk] (by decide +kernel) sga_kind sga_split entry_sga i1 (sga_args _ _) ?_)) | ((with_reducible show wpAny _ _ (call (.builtin "method_descriptor.__get__") _ _) _ _ _); refine wpAny_call (bslot "method_descriptor.__get__" "method_descriptor" "__get__" (.builtin "collections.defaultdict.__missing__") [.ref b, .ref 65] (by decide +kernel) mdg_kind mdg_split entry_mdGet c4 (mdg_args _ _ _) ?_)) | ((with_reducible show wpAny _ _ (notOfAnOpaqueClass _ _ _) _ _ _); refine ks_wpAny_notOpaque hno ?_) | with_reducible refine wpAny_attempt ?_  | with_reducible refine wpAny_runValue ?_ | lk)
  all_goals
    show codeAny _ _ (.call (.builtin "method_descriptor.__get__") ⟨[.builtin "collections.defaultdict.__missing__", if (Value.ref b == Value.ref 65) = true then .none else .ref b, .ref 65], []⟩) _ _
    rw [n65]
    refine bslot "method_descriptor.__get__" "method_descriptor" "__get__" (.builtin "collections.defaultdict.__missing__") [.ref b, .ref 65] (by decide +kernel) mdg_kind mdg_split entry_mdGet c4 (mdg_args _ _ _) ?_
    unfold Builtin.«method_descriptor.__get__»
  all_goals repeat (first | with_reducible refine wpAny_attempt ?_  | with_reducible refine wpAny_runValue ?_ | lk)
  all_goals exact q

theorem wpAny_callBorrowed {M : Model} {s : Shared} {f : Value} {pos : List Value} {Q : Value → Shared → Prop} (hc : wpAny M A (call f pos) Q E s) : wpAny M A (callBorrowed f pos) Q E s := fun Γ p hΓ => by
  have hw := hc Γ p hΓ
  rw [show call f pos = runValue (.call f ⟨pos, []⟩) from rfl, Sem.wp_runValue] at hw
  unfold callBorrowed
  rw [Sem.wp_call]
  refine wpCode_mono (fun r s' hr => ?_) hw
  rcases r with e | (v | _ | _ | _) <;> first | exact hr | exact hr.elim | (simp only [Sem.wp]; exact hr)

theorem entry_setdefault : entryFor table "dict.setdefault" = some Builtin.«dict.setdefault» := entryFor_of_tree (by kernel_rfl)
theorem entry_ddMissing : entryFor table "collections.defaultdict.__missing__" = some Builtin.«collections.defaultdict.__missing__» := entryFor_of_tree (by kernel_rfl)
theorem dm_kind : builtinKind "collections.defaultdict.__missing__" = some .method := by decide +kernel
theorem dm_split : splitId "collections.defaultdict.__missing__" = some ("collections.defaultdict", "__missing__") := by decide +kernel
theorem dm_args (a x : Value) : argsOk "collections.defaultdict.__missing__" ⟨[a, x], []⟩ := by unfold argsOk; kernel_rfl

theorem setdefault_book {lf l : Addr} {rows : List Row} {k : Str} {t : Tok} {Q : Value → Shared → Prop} (hb : h.get? b = some (bookObj dx (rows.map (entryOf w)) ep (.ref lf)))
    (hnone : rows.find? (fun r => r.key == k) = none) (hsz : rows.length ≤ 1000)
    (q : ∀ h' : Heap, (∀ a o, a ≠ b → h.get? a = some o → h'.get? a = some o) → h'.get? b = some (bookObj dx ((rows ++ [(⟨k, t, l, [], 0, []⟩ : Row)]).map (entryOf w)) (ep + 1) (.ref lf)) → Q (.ref l) ⟨h', g, d, tk + 1, os⟩) :
    wpAny (model PP w) A (dictSetDefault b (.str k t) (.ref l)) Q E ⟨h, g, d, tk, os⟩ := by
  unfold dictSetDefault
  try with_reducible refine wpAny_holding ?_
  refine wpAny_bind (wpAny_pyHash_str (wpAny_bind (dictFind_book (lam := .none) (s := ⟨h, g, d, tk + 1, os⟩) hb ?_)))
  have hi : rows.findIdx? (fun r => r.key == k) = none := by
    rw [List.findIdx?_eq_none_iff]
    intro r hr
    have := List.find?_eq_none.mp hnone r hr
    simpa using this
  rw [hi]
  dsimp only
  refine wpAny_bind (wpAny_rule (wpAny_bind ?_))
  have e : Obj.mapDictKeys (fun x => x.push ⟨hashStr w k, .str k t, .ref l⟩) (bookObj dx (rows.map (entryOf w)) ep (.ref lf)) = bookObj dx ((rows ++ [(⟨k, t, l, [], 0, []⟩ : Row)]).map (entryOf w)) (ep + 1) (.ref lf) := by
    simp [Obj.mapDictKeys, bookObj, entryOf]
  refine wpAny_updateDictKeys (s := ⟨h, g, d, tk + 1, os⟩) hb rfl ?_ (by rw [sizeLine_eq]; simp; omega) (by simp)
  refine wpAny_pure (q _ (fun a o na ea => (Heap.get?_update_other h _ (Ne.symm na)).trans ea) ?_)
  rw [← e]
  exact Heap.get?_update_self _ hb (by rw [e]; rfl)

theorem dd_missing {bm lf : Addr} {lo : Obj} {fd : FuncData} {rows : List Row} {k : Str} {t : Tok} {Q : Value → Shared → Prop} (X : (hd.heap_39 w.params).In h) (hsm : (b == sysModules) = false)
    (hb : h.get? b = some (bookObj dx (rows.map (entryOf w)) ep (.ref lf))) (hbm : h.get? bm = some (boundMissing b)) (hlf : h.get? lf = some lo) (hlo : lo.data = .func fd)
    (hnone : rows.find? (fun r => r.key == k) = none) (hsz : rows.length ≤ 1000)
    (hlam : ∀ Q' : Value → Shared → Prop, (∀ l h' tk', (∀ a o, h.get? a = some o → h'.get? a = some o) → h'.get? l = some (listOf #[] 0) → h.get? l = none → Q' (.ref l) ⟨h', g, d, tk', os⟩) → wpAny (model PP w) A.in1 (call (.ref lf) []) Q' E ⟨h, g, d, tk, os⟩)
    (q : ∀ l h' tk', (∀ a o, a ≠ b → h.get? a = some o → h'.get? a = some o) → h'.get? l = some (listOf #[] 0) → h.get? l = none → h'.get? b = some (bookObj dx ((rows ++ [(⟨k, t, l, [], 0, []⟩ : Row)]).map (entryOf w)) (ep + 1) (.ref lf)) → Q (.ref l) ⟨h', g, d, tk', os⟩) :
    wpAny (model PP w) A (call (.ref bm) [.str k t]) Q E ⟨h, g, d, tk, os⟩ := by
  have ht := book_type (w := w) hb
  have hi := book_isdd X hb
  refine wpAny_call (codeAny_of_tree ?_)
  have hC := cls_obj X
  have mm : Looks (model PP w) h (isSubtype (.ref 65) (.type "module")) false := looks_mroIn X (by kernel_rfl)
  have it : Looks (model PP w) h (isType (.ref b)) false := (Looks.ld (part := some headPart) hb).andThen .now
  show wpAny _ _ (callAny (.ref bm) _) _ _ _
  repeat (first | lk)
  refine ⟨Code.quiet_builtin _ (by decide +kernel), codeAny_builtin entry_ddMissing ?_⟩
  rw [Around.under_plainId (by decide +kernel) _]
  unfold Builtin.«collections.defaultdict.__missing__»
  obtain ⟨lc, ld, ldt, lsl⟩ := lo
  dsimp only at hlo
  subst hlo
  repeat (first | ((with_reducible show wpAny _ _ (callBorrowed _ _) _ _ _); fail) | lk)
  show wpAny _ _ (callBorrowed (.ref lf) []) _ _ _
  refine wpAny_callBorrowed (hlam _ fun l h' tk' kp hl hn => ?_)
  have hb' := kp _ _ hb
  have ht' := book_type (w := w) hb'
  have X' := X.keeps kp
  have o1 : Looks (model PP w) h' (isSubtype (.ref 65) (.type "collections.OrderedDict")) false := looks_mroIn X' (by kernel_rfl)
  have i1 : Looks (model PP w) h' (isInstance (.ref b) (.type "dict")) true := ht'.andThen (looks_mroIn X' (by kernel_rfl))
  refine wpAny_pure (And.intro (Code.quiet_builtin _ (by decide +kernel)) (codeAny_builtin entry_setdefault ?_))
  rw [Around.under_plainId (by decide +kernel) _]
  unfold Builtin.«dict.setdefault»
  repeat lk
  simp only [hsm, Bool.false_eq_true, if_false]
  refine wpAny_bind ?_
  refine setdefault_book hb' hnone hsz fun h'' kp' hb'' => ?_
  refine wpAny_pure ?_
  refine q l h'' _ (fun a o na e => kp' a o na (kp a o e)) (kp' l _ (fun e => ?_) hl) hn hb''
  rw [e, hb] at hn; cases hn
end
end Mine
end

section
open PySem PySem.W PySem.Calls PyProof.Rows Builtin Builtin.ObjectAttr
namespace Mine
set_option maxRecDepth 100000
set_option maxHeartbeats 1000000

abbrev args0 : Arguments := { posonlyargs := [], args := [], vararg := none, kwonlyargs := [], kw_defaults := [], kwarg := none, defaults := [] }
abbrev lamScope1 : Scope := { kind := .function, names := [], isGenerator := false, isCoroutine := false }
abbrev lamObj1 (pos : Pos) (pm : Value) (c' : Addr) (ctv : Value) : Obj := kla_obj "<lambda>" "_law_filed.<locals>.<lambda>" args0 (.List [] pos) lamScope1 [] pm c' ctv

section
variable {w : World} {A : Around} {E : Value → Shared → Prop} {h : Heap} {g : Array GenState} {d : Drawn} {tk : Nat} {os : OsState}

theorem lam_list {pos : Pos} {pm ctv : Value} {c' lf : Addr} {Q : Value → Shared → Prop} (hlim : h.NoLimit) (hlf : h.get? lf = some (lamObj1 pos pm c' ctv)) (hcd : h.CodeRec (.ref c') "_law_filed.<locals>.<lambda>") (hroom : A.depth < recursionLimit)
    (q : ∀ l h' tk', (∀ a o, h.get? a = some o → h'.get? a = some o) → h'.get? l = some (listOf #[] 0) → h.get? l = none → Q (.ref l) ⟨h', g, d, tk', os⟩) :
    wpAny (model PP w) A (call (.ref lf) []) Q E ⟨h, g, d, tk, os⟩ := by
  refine wpAny_call (kla_callFunE (s := ⟨h, g, d, tk, os⟩) hroom hlf rfl rfl rfl rfl hcd ?_)
  have hb : bindArgs (kla_fn "<lambda>" "_law_filed.<locals>.<lambda>" args0 (.List [] pos) lamScope1 [] pm (.ref c') ctv) ⟨[], []⟩ = pure [] := rfl
  rw [hb]
  refine wpAny_pure (wpAny_newFunctionEnv (fun y hy => by cases hy) (fun y hy => by cases hy) (fun h₁ hns hsb => ⟨hlim.fresh _ hsb, ?_⟩) rfl)
  refine kla_codeExpr ?_
  refine List_ ?_
  show wpAny _ _ (pure []) _ _ _
  refine wpAny_pure ?_
  have kp : ∀ a o, h.get? a = some o → h₁.get? a = some o := fun a o e => hsb.extBut a o (Nat.ne_of_lt (Heap.lt_size e)) (Heap.get?_push_of_some _ e)
  refine wpAny_newObj_type ?_ (by size_fits)
  refine q h₁.objs.size _ _ (fun a o e => Heap.get?_push_of_some _ (kp a o e)) (Heap.get?_push_size _ rfl) ?_
  cases e : h.get? h₁.objs.size with
  | none => rfl
  | some o => exact absurd (Heap.lt_size (kp _ _ e)) (Nat.lt_irrefl _)
end
end Mine
end

section
open PySem PySem.W PySem.Calls PyProof.Rows Builtin Builtin.ObjectAttr
namespace Mine
set_option maxRecDepth 100000
set_option maxHeartbeats 1000000

section
variable {M : Model} {A : Around} {E : Value → Shared → Prop} {s : Shared} {c : Code}

theorem at_args3 {pos : Pos} {id : String} {x1 x2 x3 : Sem Value} {Q : Value → Shared → Prop}
    (h : wpAny M A x1 (fun v1 s1 => wpAny M A x2 (fun v2 s2 => PySem.wpAt M A c x3 (fun v3 s3 => wpAny M A (call (.builtin id) [v1, v2, v3]) Q E s3) E s2) E s1) E s) :
    PySem.wpAt M A c (callWith pos (.builtin id) [] [(false, x1), (false, x2), (false, x3)] []) Q E s := by
  have hsp : PySem.wpAt M A c (evalArgs (.builtin id) true [(false, x1), (false, x2), (false, x3)] []) (fun a s₁ => wpAny M A (call (.builtin id) ([] ++ a.pos) a.kw) Q E s₁) E s := by
    unfold evalArgs
    show PySem.wpAt M A c (spliced [(false, x1), (false, x2), (false, x3)] >>= _) _ E s
    refine PySem.wpAt_bind ?_
    rw [spliced]
    refine PySem.wpAt_bind (PySem.wpAt_of_wpAny (wpAny_mono h (fun v1 s1 h1 => ?_) fun _ _ e => e))
    simp only [Bool.false_eq_true, if_false]
    refine PySem.wpAt_bind (PySem.wpAt_of_wpAny (wpAny_pure ?_))
    refine PySem.wpAt_bind (ks_wpAt_holding ?_)
    rw [spliced]
    refine PySem.wpAt_bind (PySem.wpAt_of_wpAny (wpAny_mono h1 (fun v2 s2 h2 => ?_) fun _ _ e => e))
    simp only [Bool.false_eq_true, if_false]
    refine PySem.wpAt_bind (PySem.wpAt_of_wpAny (wpAny_pure ?_))
    refine PySem.wpAt_bind (ks_wpAt_holding ?_)
    rw [spliced]
    refine PySem.wpAt_bind (ks_wpAt_mono h2 (fun v3 s3 h3 => ?_) fun _ _ e => e)
    simp only [Bool.false_eq_true, if_false]
    refine PySem.wpAt_bind (PySem.wpAt_of_wpAny (wpAny_pure ?_))
    refine PySem.wpAt_bind (ks_wpAt_holding ?_)
    rw [spliced]
    refine PySem.wpAt_of_wpAny (wpAny_pure (PySem.wpAt_of_wpAny (wpAny_pure (PySem.wpAt_of_wpAny (wpAny_pure (PySem.wpAt_of_wpAny (wpAny_pure ?_)))))))
    refine ks_wpAt_holding ?_
    refine PySem.wpAt_of_wpAny ?_
    exact wpAny_bind (wpAny_pure (wpAny_bind (wpAny_pure (wpAny_pure h3))))
  unfold callWith
  refine PySem.wpAt_bind (ks_wpAt_holding (ks_wpAt_mono hsp (fun a s₁ h₁ => PySem.wpAt_of_wpAny (wpAny_bind (wpAny_standAt ?_))) fun _ _ x => x))
  simp only [List.any_cons, List.any_nil, Bool.or_false]
  refine wpAny_bind (wpAny_pure ?_)
  exact wpAny_bind (wpAny_mono h₁ (fun r s₂ hr => wpAny_bind (wpAny_holding (wpAny_point (wpAny_pure hr)))) fun _ _ x => x)

theorem at_super {value : Expr} {p2 : Pos} {attr : Str} {env : Env} {prog : Program} {w : World} {Q : Value → Shared → Prop}
    (h : PySem.wpAt (model prog w) A c (attributeBase value attr env (eval value env)) (fun o s₁ => wpAny (model prog w) A (getAttr o attr true) Q E s₁) E s) :
    PySem.wpAt (model prog w) A c (eval (.Attribute value attr p2) env) Q E s := by
  rw [arm_eval_Attribute]
  refine PySem.wpAt_bind (ks_wpAt_mono h (fun o s₁ h₁ => PySem.wpAt_of_wpAny ?_) fun _ _ e => e)
  refine wpAny_bind (wpAny_standAt (wpAny_bind (wpAny_holding (wpAny_mono h₁ (fun r s₂ h₂ => ?_) fun _ _ e => e))))
  exact wpAny_bind (wpAny_letTemporaryGo (wpAny_pure h₂))

theorem at_Call_Call {f : Str} {p0 p1 pos : Pos} {as as2 : List PySem.Expr} {env : Env} {Q : Value → Shared → Prop}
    (h : PySem.wpAt M A c (eval (.Call (.Name f p0) as [] p1) env) (fun v s1 => wpAny M A (callWith pos v [] (backTo pos (starEach as2 env)) []) Q E s1) E s) :
    PySem.wpAt M A c (eval (.Call (.Call (.Name f p0) as [] p1) as2 [] pos) env) Q E s := by
  show PySem.wpAt M A c (eval (.Call (.Name f p0) as [] p1) env >>= fun v => callWith pos v [] (backTo pos (starEach as2 env)) []) Q E s
  exact PySem.wpAt_bind (ks_wpAt_mono h (fun v s1 h1 => PySem.wpAt_of_wpAny h1) fun _ _ e => e)

theorem at_Call_Name3 {f : Str} {bid : String} {p0 pos : Pos} {e1 e2 e3 : PySem.Expr} {env : Env} {Q : Value → Shared → Prop} (hs : starEach [e1, e2, e3] env = [(false, eval e1 env), (false, eval e2 env), (false, eval e3 env)])
    (h : wpAny M A (eval (.Name f p0) env) (fun v s0 => v = .builtin bid ∧ wpAny M A (eval e1 env) (fun v1 s1 => wpAny M A (eval e2 env) (fun v2 s2 => PySem.wpAt M A c (eval e3 env) (fun v3 s3 => wpAny M A (call (.builtin bid) [v1, v2, v3]) Q E s3) E s2) E s1) E s0) E s) :
    PySem.wpAt M A c (eval (.Call (.Name f p0) [e1, e2, e3] [] pos) env) Q E s := by
  show PySem.wpAt M A c (eval (.Name f p0) env >>= fun v => callWith pos v [] (backTo pos (starEach [e1, e2, e3] env)) []) Q E s
  refine PySem.wpAt_bind (PySem.wpAt_of_wpAny (wpAny_mono h (fun v s0 h0 => ?_) fun _ _ e => e))
  obtain ⟨rfl, h0⟩ := h0
  rw [hs]
  exact at_args3 h0
end
section
variable {prog : Program} {w : World} {A : Around} {s : Shared} {K : Frag} {p : Program} {loose : List Str} {mean : ExcName → Option Value} {mg mb : Str → Option Value}
  {R : Result → Shared → Prop} {name qual : Str} {params : Arguments} {body : List Stmt} {scope : Scope} {dV kV doc pm cdv ct oc : Value} {an od : Option Addr} {osl : Array (Option Value)} {f cc : Addr} {args : Args} {binds : List (Str × Value)}

theorem enterS (X : K.In s.heap) (T : Top p loose mean mg mb s.heap)
    (ho : K.lookup f = some ⟨oc, od, .func (ksFn name qual params body scope dV kV doc pm an cdv ct cc), osl⟩) (hcd : codeIn K cdv qual = true) (hroom : A.depth < recursionLimit)
    (hbind : BindsTo s (ksFn name qual params body scope dV kV doc pm an cdv ct cc) args binds) (hloc : ∀ y ∈ binds, scope.names.lookup y.1 = some .local)
    (h : ∀ L' h₁, Fr s.heap L' h₁ (fun y => binds.reverse.lookup y) →
      PySem.wpAt (model prog w) (A.deeper (ksEnv qual scope L' f cdv cc)) (.func body (ksEnv qual scope L' f cdv cc)) (execs body (ksEnv qual scope L' f cdv cc))
        (fun fl s' => R (.ok (.ret (match fl with | .ret v => v | _ => .none))) s')
        (fun e s' => wpAny (model prog w) (A.deeper (ksEnv qual scope L' f cdv cc)) (leaving (ksEnv qual scope L' f cdv cc) e) (fun _ s'' => R (.error e) s'') (fun e' s'' => R (.error e') s'') s')
        { s with heap := h₁, toks := s.toks + binds.length })
    (hcell : ∀ x ∈ scope.names, x.2 ≠ .cell) (hco : scope.isCoroutine = false) (hgen : scope.isGenerator = false) (hk : scope.kind = .function) : codeAny (model prog w) A (.call (.ref f) args) R s :=
  ks_codeAny_call_defAt (fd := ksFn name qual params body scope dV kV doc pm an cdv ct cc) (body := body) (binds := binds) hroom (X _ _ ho) rfl T.nolimit (codeRec_of X hcd) rfl hbind hcell hloc
    (fun h₁ hns hk₁ => h _ h₁ ⟨hns, hk₁, Nat.le_refl _⟩) hco hgen hk

theorem enter0 (X : K.In s.heap) (T : Top p loose mean mg mb s.heap)
    (ho : K.lookup f = some ⟨oc, od, .func (fnOf name qual params body scope dV kV doc pm an cdv ct), osl⟩) (hcd : codeIn K cdv qual = true) (hroom : A.depth < recursionLimit)
    (hbind : BindsTo s (fnOf name qual params body scope dV kV doc pm an cdv ct) args binds) (hloc : ∀ y ∈ binds, scope.names.lookup y.1 = some .local)
    (h : ∀ L' h₁, Fr s.heap L' h₁ (fun y => binds.reverse.lookup y) →
      wpAny (model prog w) (A.deeper (envOf qual scope L' f cdv)) (execs body (envOf qual scope L' f cdv))
        (fun fl s' => R (.ok (.ret (match fl with | .ret v => v | _ => .none))) s')
        (fun e s' => wpAny (model prog w) (A.deeper (envOf qual scope L' f cdv)) (leaving (envOf qual scope L' f cdv) e) (fun _ s'' => R (.error e) s'') (fun e' s'' => R (.error e') s'') s')
        { s with heap := h₁, toks := s.toks + binds.length })
    (hcell : ∀ x ∈ scope.names, x.2 ≠ .cell) (hco : scope.isCoroutine = false) (hgen : scope.isGenerator = false) (hk : scope.kind = .function) : codeAny (model prog w) A (.call (.ref f) args) R s :=
  codeAny_call_def (fd := fnOf name qual params body scope dV kV doc pm an cdv ct) (body := body) (binds := binds) hroom (X _ _ ho) rfl T.nolimit (codeRec_of X hcd) rfl hbind hcell hloc
    (fun h₁ hns hk₁ => h _ h₁ ⟨hns, hk₁, Nat.le_refl _⟩) hco hgen hk
end
end Mine
end

section
open PySem PySem.W PySem.Calls PyProof.Rows Builtin Builtin.ObjectAttr
namespace Mine
set_option maxRecDepth 100000
set_option maxHeartbeats 1000000

section
variable {w : World} {A : Around} {E : Value → Shared → Prop} {h : Heap} {g : Array GenState} {d : Drawn} {tk : Nat} {os : OsState}
variable {b dx lf : Addr} {es : Array DictEntry} {ep : Nat} {sl : Array (Option Value)} {od : Obj} {u : Tok} {dflt : Value}

theorem k_getattr : builtinKind "getattr" = none := by decide +kernel
theorem e_getattr : entryFor table "getattr" = some Builtin.«getattr» := entryFor_of_tree (by kernel_rfl)
theorem args_getattr_3 (a b c : Value) : argsOk "getattr" ⟨[a, b, c], []⟩ := by unfold argsOk; kernel_rfl

theorem getattr3_none {Q : Value → Shared → Prop} (hh : A.handled = none) (X : (hd.heap_39 w.params).In h) (hb : h.get? b = some ⟨.ref 65, some dx, .dict es ep, sl⟩) (hdx : h.get? dx = some od) (hl : lookIn "_frozen" od = some none)
    (q : ∀ h' tk', (∀ b o, h.get? b = some o → h'.get? b = some o) → Q dflt ⟨h', g, d, tk', os⟩) : wpAny (model PP w) A (call (.builtin "getattr") [.ref b, .str "_frozen" u, dflt]) Q E ⟨h, g, d, tk, os⟩ := by
  refine call_function_entry k_getattr (by decide +kernel) e_getattr (args_getattr_3 _ _ _) ?_
  have im : Looks (model PP w) h (isInstance (.ref b) (.type "module")) false := (book_type hb).andThen (looks_mroIn X (by kernel_rfl))
  unfold Builtin.«getattr»
  repeat (first | with_reducible refine getattr_frozen_none hh X hb hdx hl ?_ | lk)
  intro h' tk' kp
  repeat lk
  exact ⟨_, rfl, q h' tk' kp⟩

theorem getattr3_some {l2 : Addr} {Q : Value → Shared → Prop} (X : (hd.heap_39 w.params).In h) (hb : h.get? b = some ⟨.ref 65, some dx, .dict es ep, sl⟩) (hdx : h.get? dx = some od) (hl : lookIn "_frozen" od = some (some (.ref l2)))
    (q : Q (.ref l2) ⟨h, g, d, tk, os⟩) : wpAny (model PP w) A (call (.builtin "getattr") [.ref b, .str "_frozen" u, dflt]) Q E ⟨h, g, d, tk, os⟩ := by
  refine call_function_entry k_getattr (by decide +kernel) e_getattr (args_getattr_3 _ _ _) ?_
  have im : Looks (model PP w) h (isInstance (.ref b) (.type "module")) false := (book_type hb).andThen (looks_mroIn X (by kernel_rfl))
  unfold Builtin.«getattr»
  repeat (first | with_reducible refine wpAny_attempt ?_ | with_reducible refine getattr_frozen_some X hb hdx hl ?_ | lk)
  exact ⟨_, rfl, q⟩
end
end Mine
end

section
open PySem PySem.W PySem.Calls PyProof.Rows Builtin Builtin.ObjectAttr
namespace Mine
set_option maxRecDepth 100000
set_option maxHeartbeats 1000000

section
variable {w : World} {A : Around} {E : Value → Shared → Prop} {h : Heap} {g : Array GenState} {d : Drawn} {tk : Nat} {os : OsState}
variable {b dx : Addr} {rows : List Row} {ep : Nat} {lf : Addr} {k : Str} {t : Tok}
variable {p : Program} {loose : List Str} {mean : ExcName → Option Value} {mg mb : Str → Option Value}

theorem fillFrag (w : World) : hd.heap_39 w.params = hd.heap_39 w.params ∧ PySem.Challenge.rw_il0158_01 = PySem.Challenge.rw_il0158_01 := by k_fill; exact ⟨rfl, rfl⟩

theorem callWith_machine {M : Model} {s : Shared} {pos : Pos} {f : Value} {a : Value} {x : Sem Value} {Q : Value → Shared → Prop}
    (h : wpAny M A x (fun v s₁ => v = a ∧ (∃ kp, Looks M s₁.heap (keeperOf f) kp ∧ kp ≠ .caller) ∧ wpAny M A (call f [a]) Q E s₁) E s) : wpAny M A (callWith pos f [] [(false, x)] []) Q E s := by
  unfold callWith
  refine wpAny_bind (wpAny_holding (evalArgs_plain (spliced_cons (wpAny_mono h (fun v s₁ h₁ => ?_) fun _ _ e => e))))
  obtain ⟨rfl, ⟨kp, hk, hne⟩, hc⟩ := h₁
  refine wpAny_pure (wpAny_bind (wpAny_standAt ?_))
  have tail : ∀ {t : Sem Value}, wpAny M A t Q E s₁ → wpAny M A (t >>= fun r => holding [r] point >>= fun _ => pure r) Q E s₁ :=
    fun ht => wpAny_bind (wpAny_mono ht (fun r s₂ hr => wpAny_bind (wpAny_holding (wpAny_point (wpAny_pure hr)))) fun _ _ x => x)
  have marked (mk : Value) : wpAny M A (callMarked mk f ([] ++ [v]) []) Q E s₁ := by unfold callMarked; exact Calls.wpAny_keep hc
  simp only [List.any_cons, List.any_nil, Bool.or_false]
  refine wpAny_bind (hk.here ?_)
  cases kp <;> first | exact absurd rfl hne | exact tail hc | exact tail (marked _)

theorem missing_new {ps : Pos} {pm ctv : Value} {c' : Addr} {Q : Value → Shared → Prop} (X : (hd.heap_39 w.params).In h) (T : Top p loose mean mg mb h) (hroom : A.depth + 2 < recursionLimit) (hu : A.units + 20 < cLine) (hh : A.handled = none)
    (hsm : (b == sysModules) = false) (hb : h.get? b = some (bookObj dx (rows.map (entryOf w)) ep (.ref lf))) (hdx : h.get? dx = some (dictOf [] 0))
    (hlf : h.get? lf = some (lamObj1 ps pm c' ctv)) (hcd : h.CodeRec (.ref c') "_law_filed.<locals>.<lambda>")
    (hnone : rows.find? (fun r => r.key == k) = none) (hsz : rows.length ≤ 1000)
    (q : ∀ l h' tk', (∀ a o, a ≠ b → h.get? a = some o → h'.get? a = some o) → h'.get? l = some (listOf #[] 0) → h.get? l = none → h'.get? b = some (bookObj dx ((rows ++ [(⟨k, t, l, [], 0, []⟩ : Row)]).map (entryOf w)) (ep + 1) (.ref lf)) → Q (.ref l) ⟨h', g, d, tk', os⟩) :
    wpAny (model PP w) A (call (.ref 55) [.ref b, .str k t]) Q E ⟨h, g, d, tk, os⟩ := by
  refine wpAny_call ?_
  refine' enterS X T ?k6 ?k7 ?k8 ?k9 ?kB ?_ ?c1 ?c2 ?c3 ?c4
  case k6 => k_is
  case k7 => k_is
  case k8 => omega
  case k9 => exact BindsTo.of_eq rfl
  case kB => exact locs rfl
  case c1 => decide
  case c2 => exact rfl
  case c3 => exact rfl
  case c4 => exact rfl
  intro L' h₁ F'
  have N' : News h L' h₁ [] := News.nil
  dsimp only at F' N' ⊢
  have TR := topRead_of T
  have I : InstAt h₁ b (bookObj dx (rows.map (entryOf w)) ep (.ref lf)) 65 (some (dictOf [] 0)) := ⟨F'.keep _ _ hb, rfl, rfl, F'.keep _ _ hdx⟩
  refine ks_wpAt_execs_cons ?_
  refine ks_wpAt_Return_some ?_
  refine at_Call_Call ?_
  refine at_Call_Name3 (bid := "getattr") rfl ?_
  k_dflt (refine' nameX_B F' X TR ?e ?v ?n ?_ ?a ?b; (case a => rfl); (case b => rfl); (case e => k_is); (case v => boot_fast); (case n => decide))
  refine ⟨rfl, ?_⟩
  k_dflt (refine' nameX_L F' ?v ?_ ?a ?b; (case a => rfl); (case b => rfl); (case v => rfl))
  refine Calls.Constant_str ?_
  refine at_super ?_
  dsimp only
  refine ks_node F' X N' T (by k_is) (by rfl) (by rfl) I (by k_is) (by rfl) (by first | rfl | decide +kernel) (by k_is) (by k_is) (by k_is) (by k_is) (by decide) (by rfl) (by rfl) (by rfl) (by rfl) (by decide +kernel) (by first | boot_by_name | rfl | kernel_rfl) ?_
  intro so h₂ F₂ N₂ l₂
  have X2 : (hd.heap_39 w.params).In h₂ := X.keeps F₂.keep
  refine attr_super_missing X2 (F₂.keep _ _ hb) (N₂ _ (.head _)).1 ?_
  have kp3 : ∀ a o, h₂.get? a = some o → (h₂.push (boundMissing b)).get? a = some o := fun a o e => Heap.get?_push_of_some _ e
  have hbm : (h₂.push (boundMissing b)).get? h₂.objs.size = some (boundMissing b) := Heap.get?_push_size _ rfl
  have F₃ := F₂.push (boundMissing b)
  generalize h₂.push (boundMissing b) = h₃ at kp3 hbm F₃ ⊢
  refine getattr3_none hh (X.keeps F₃.keep) (F₃.keep _ _ hb) (F₃.keep _ _ hdx) rfl fun h₄ tk₄ kp4 => ?_
  have F₄ : Fr h L' h₄ _ := F₃.keeps kp4
  refine callWith_machine (a := .str k t) ?_
  k_dflt (refine' nameX_L F₄ ?v ?_ ?a ?b; (case a => rfl); (case b => rfl); (case v => rfl))
  have hbm4 := kp4 _ _ hbm
  refine ⟨rfl, ⟨Keeper.machine, (Looks.ld hbm4).andThen .now, by decide⟩, ?_⟩
  dsimp only
  have X4 := X.keeps F₄.keep
  refine dd_missing X4 hsm (F₄.keep _ _ hb) hbm4 (F₄.keep _ _ hlf) rfl hnone hsz (fun Q' hQ' => ?_) (fun l h' tk' kp' hl hn hb' => ?_)
  · refine lam_list (T.nolimit.keeps F₄.keep) (F₄.keep _ _ hlf) (hcd.keeps F₄.keep) ?_ hQ'
    show A.depth + 1 < recursionLimit
    omega
  · refine q l h' tk' (fun a o na e => kp' a o na (F₄.keep a o e)) hl ?_ hb'
    cases e : h.get? l with
    | none => rfl
    | some o => rw [F₄.keep _ _ e] at hn; cases hn

theorem wpAny_of_wpAt {α : Type} {M : Model} {s : Shared} {x : Sem α} {Q : α → Shared → Prop} (h : ∀ c, PySem.wpAt M A c x Q E s) : wpAny M A x Q E s := fun Γ p hΓ => h Γ.code Γ p rfl hΓ

abbrev lamArgs2 (pk : Pos) : Arguments := { posonlyargs := [], args := [{ arg := "key", annotation := none, pos := pk }], vararg := none, kwonlyargs := [], kw_defaults := [], kwarg := none, defaults := [] }
abbrev lamScope2 : Scope := { kind := .function, names := [(PySem.Str.ofString "key", .local), (PySem.Str.ofString "self", .free)], isGenerator := false, isCoroutine := false }
abbrev lamObj2 (pk p1 p2 p3 : Pos) (cell : Addr) (pm : Value) (c' : Addr) (ctv : Value) : Obj :=
  kla_obj "<lambda>" "FreezableDefaultDict.freeze.<locals>.<lambda>" (lamArgs2 pk) (.Call (.Attribute (.Name "self" p1) "default_factory" p2) [] [] p3) lamScope2 [("self", cell)] pm c' ctv

theorem getMethod_df {pl : Sem Bool} {es : Array DictEntry} {Q : Value × List Value → Shared → Prop} (X : (hd.heap_39 w.params).In h) (hb : h.get? b = some ⟨.ref 65, some dx, .dict es ep, #[some (.ref lf)]⟩)
    (q : Q (.ref lf, []) ⟨h, g, d, tk + 1, os⟩) : wpAny (model PP w) A (getMethod (.ref b) "default_factory" pl) Q E ⟨h, g, d, tk, os⟩ := by
  have ht := book_type (w := w) hb
  have g1 : Looks (model PP w) h (typeLookup (.ref 65) "__getattribute__") (some (.builtin "collections.defaultdict.__getattribute__")) := looks_findIn X (by kernel_rfl)
  have g2 : Looks (model PP w) h (typeLookup (.ref 65) "__getattr__") none := looks_findIn X (by kernel_rfl)
  have g3 : Looks (model PP w) h (typeLookup (.ref 65) "default_factory") (some (.builtin "collections.defaultdict.default_factory")) := looks_findIn X (by kernel_rfl)
  have g4 : Looks (model PP w) h (typeOf (.builtin "collections.defaultdict.default_factory")) (.type "member_descriptor") := looks_typeIn X (by kernel_rfl)
  unfold getMethod
  repeat (first | with_reducible refine attr_default_factory X hb ?_ | lk)
  exact q

theorem meth0 {M : Model} {s : Shared} {o : PySem.Expr} {name : Str} {apos pos : Pos} {env : Env} {Q : Value → Shared → Prop} (hbase : attributeBase o name env (eval o env) = eval o env) (hline : (apos.endLine == pos.line) = true)
    (h : wpAny M A (eval o env) (fun ov s₁ => wpAny M A (getMethod ov name (do return (← importBound o env).getD true)) (fun fx s₂ => wpAny M A (callWith pos fx.1 fx.2 [] []) Q E s₂) E s₁) E s) :
    wpAny M A (eval (.Call (.Attribute o name apos) [] [] pos) env) Q E s := by
  rw [arm_eval_Call, hbase]
  refine wpAny_bind (wpAny_mono h (fun ov s₁ h₁ => ?_) fun _ _ e => e)
  refine wpAny_bind (wpAny_standAt ?_)
  have hpos : methodCallPos true o env apos pos = pure pos := by unfold methodCallPos; simp [hline]
  have hform : methodCallForm (([] : List PySem.Expr).length + ([] : List Keyword).length) (backTo pos (starEach [] env)) (backToKw pos (keywordEach [] env)) = true := rfl
  unfold methodCall
  rw [hform]
  exact wpAny_bind (wpAny_holding (wpAny_mono h₁ (fun fx s₂ h₂ => wpAny_bind (wpAny_of_eq hpos h₂)) fun _ _ e => e))

theorem callWith_nil {M : Model} {s : Shared} {pos : Pos} {f : Value} {Q : Value → Shared → Prop} {kp : Keeper} (hk : Looks M s.heap (keeperOf f) kp) (hne : kp ≠ .caller) (hc : wpAny M A (call f []) Q E s) : wpAny M A (callWith pos f [] [] []) Q E s := by
  unfold callWith
  refine wpAny_bind (wpAny_holding (evalArgs_nil3 ?_))
  refine wpAny_bind (wpAny_standAt ?_)
  have tail : ∀ {t : Sem Value}, wpAny M A t Q E s → wpAny M A (t >>= fun r => holding [r] point >>= fun _ => pure r) Q E s :=
    fun ht => wpAny_bind (wpAny_mono ht (fun r s₂ hr => wpAny_bind (wpAny_holding (wpAny_point (wpAny_pure hr)))) fun _ _ x => x)
  have marked (mk : Value) : wpAny M A (callMarked mk f ([] ++ []) []) Q E s := by unfold callMarked; exact Calls.wpAny_keep hc
  simp only [List.any_nil, Bool.or_false]
  refine wpAny_bind (hk.here ?_)
  cases kp <;> first | exact absurd rfl hne | exact tail hc | exact tail (marked _)

theorem lam_frozen {pk p1 p2 p3 ps : Pos} (hline : (p2.endLine == p3.line) = true) {cell : Addr} {pm pm2 ctv ctv2 : Value} {c' c2 l2 : Addr} {oc : Obj} {es : Array DictEntry} {Q : Value → Shared → Prop} (X : (hd.heap_39 w.params).In h) (hlim : h.NoLimit) (hl2 : h.get? l2 = some (lamObj2 pk p1 p2 p3 cell pm2 c2 ctv2)) (hcd2 : h.CodeRec (.ref c2) "FreezableDefaultDict.freeze.<locals>.<lambda>")
    (hcell : h.get? cell = some oc) (hoc : oc.data = .cell (some (.ref b))) (hb : h.get? b = some ⟨.ref 65, some dx, .dict es ep, #[some (.ref lf)]⟩)
    (hlf : h.get? lf = some (lamObj1 ps pm c' ctv)) (hcd : h.CodeRec (.ref c') "_law_filed.<locals>.<lambda>") (hroom : A.depth + 1 < recursionLimit)
    (q : ∀ l h' tk', (∀ a o, h.get? a = some o → h'.get? a = some o) → h'.get? l = some (listOf #[] 0) → h.get? l = none → Q (.ref l) ⟨h', g, d, tk', os⟩) :
    wpAny (model PP w) A (call (.ref l2) [.str k t]) Q E ⟨h, g, d, tk, os⟩ := by
  refine wpAny_call (kla_callFunE (s := ⟨h, g, d, tk, os⟩) (by omega) hl2 rfl rfl rfl rfl hcd2 ?_)
  have hbd : bindArgs (kla_fn "<lambda>" "FreezableDefaultDict.freeze.<locals>.<lambda>" (lamArgs2 pk) (.Call (.Attribute (.Name "self" p1) "default_factory" p2) [] [] p3) lamScope2 [("self", cell)] pm2 (.ref c2) ctv2) ⟨[.str k t], []⟩ = pure [(("key" : Str), Value.str k t)] := rfl
  rw [hbd]
  refine wpAny_pure (wpAny_newFunctionEnv (show ∀ y ∈ lamScope2.names, y.2 ≠ .cell by decide) (fun y hy => by rcases List.mem_singleton.mp hy with rfl; rfl) (fun h₁ hns hsb => ⟨hlim.fresh _ hsb, ?_⟩) rfl)
  have kp : ∀ a o, h.get? a = some o → h₁.get? a = some o := fun a o e => hsb.extBut a o (Nat.ne_of_lt (Heap.lt_size e)) (Heap.get?_push_of_some _ e)
  refine kla_codeExpr (meth0 rfl hline ?_)
  refine wpAny_Name (wpAny_loadName_free (c := cell) rfl rfl rfl ⟨oc, kp _ _ hcell, hoc⟩ ?_ (by decide)) (by decide)
  have X1 := X.keeps kp
  refine getMethod_df X1 (kp _ _ hb) ?_
  have hlf1 := kp _ _ hlf
  refine callWith_nil (kp := .frame) ((Looks.ld hlf1).andThen .now) (by decide) ?_
  refine lam_list (hlim.keeps kp) hlf1 (hcd.keeps kp) ?_ (fun l h' tk' kp' hl hn => q l h' tk' (fun a o e => kp' a o (kp a o e)) hl ?_)
  · show A.depth + 1 < recursionLimit
    omega
  · cases e : h.get? l with
    | none => rfl
    | some o => rw [kp _ _ e] at hn; cases hn

structure Frozen (w : World) (h : Heap) (b dx : Addr) (es : Array DictEntry) (ep : Nat) (lf : Addr) : Prop where
  book : h.get? b = some ⟨.ref 65, some dx, .dict es ep, #[some (.ref lf)]⟩
  dict : ∃ hs tk l2, h.get? dx = some (dictOf [⟨hs, .str "_frozen" tk, .ref l2⟩] 1) ∧ ∃ pk p1 p2 p3 cell pm2 c2 ctv2 oc, (p2.endLine == p3.line) = true ∧ h.get? l2 = some (lamObj2 pk p1 p2 p3 cell pm2 c2 ctv2) ∧ h.CodeRec (.ref c2) "FreezableDefaultDict.freeze.<locals>.<lambda>" ∧
    h.get? cell = some oc ∧ oc.data = .cell (some (.ref b))
  lam : ∃ ps pm c' ctv, h.get? lf = some (lamObj1 ps pm c' ctv) ∧ h.CodeRec (.ref c') "_law_filed.<locals>.<lambda>"
theorem Frozen.keeps {es : Array DictEntry} {h' : Heap} (Z : Frozen w h b dx es ep lf) (k : ∀ a o, h.get? a = some o → h'.get? a = some o) : Frozen w h' b dx es ep lf := by
  obtain ⟨hb, ⟨hs, tk, l2, hd, pk, p1, p2, p3, cell, pm2, c2, ctv2, oc, hp, hl, hc, he, ho⟩, ps, pm, c', ctv, hf, hr⟩ := Z
  exact ⟨k _ _ hb, ⟨hs, tk, l2, k _ _ hd, pk, p1, p2, p3, cell, pm2, c2, ctv2, oc, hp, k _ _ hl, hc.keeps k, k _ _ he, ho⟩, ps, pm, c', ctv, k _ _ hf, hr.keeps k⟩

theorem missing_frozen {es : Array DictEntry} {Q : Value → Shared → Prop} (X : (hd.heap_39 w.params).In h) (T : Top p loose mean mg mb h) (hroom : A.depth + 2 < recursionLimit)
    (Z : Frozen w h b dx es ep lf)
    (q : ∀ l h' tk', (∀ a o, h.get? a = some o → h'.get? a = some o) → h'.get? l = some (listOf #[] 0) → h.get? l = none → Q (.ref l) ⟨h', g, d, tk', os⟩) :
    wpAny (model PP w) A (call (.ref 55) [.ref b, .str k t]) Q E ⟨h, g, d, tk, os⟩ := by
  have Z0 := Z
  obtain ⟨hb, ⟨hs, ftk, l2, hdx, Z1⟩, -⟩ := Z0
  clear Z1
  refine wpAny_call ?_
  refine' enterS X T ?k6 ?k7 ?k8 ?k9 ?kB ?_ ?c1 ?c2 ?c3 ?c4
  case k6 => k_is
  case k7 => k_is
  case k8 => omega
  case k9 => exact BindsTo.of_eq rfl
  case kB => exact locs rfl
  case c1 => decide
  case c2 => exact rfl
  case c3 => exact rfl
  case c4 => exact rfl
  intro L' h₁ F'
  have N' : News h L' h₁ [] := News.nil
  dsimp only at F' N' ⊢
  have TR := topRead_of T
  have I : InstAt h₁ b ⟨.ref 65, some dx, .dict es ep, #[some (.ref lf)]⟩ 65 (some (dictOf [⟨hs, .str "_frozen" ftk, .ref l2⟩] 1)) := ⟨F'.keep _ _ hb, rfl, rfl, F'.keep _ _ hdx⟩
  refine ks_wpAt_execs_cons ?_
  refine ks_wpAt_Return_some ?_
  refine at_Call_Call ?_
  refine at_Call_Name3 (bid := "getattr") rfl ?_
  k_dflt (refine' nameX_B F' X TR ?e ?v ?n ?_ ?a ?b; (case a => rfl); (case b => rfl); (case e => k_is); (case v => boot_fast); (case n => decide))
  refine ⟨rfl, ?_⟩
  k_dflt (refine' nameX_L F' ?v ?_ ?a ?b; (case a => rfl); (case b => rfl); (case v => rfl))
  refine Calls.Constant_str ?_
  refine at_super ?_
  dsimp only
  refine ks_node F' X N' T (by k_is) (by rfl) (by rfl) I (by k_is) (by rfl) (by first | rfl | decide +kernel) (by k_is) (by k_is) (by k_is) (by k_is) (by decide) (by rfl) (by rfl) (by rfl) (by rfl) (by decide +kernel) (by first | boot_by_name | rfl | kernel_rfl) ?_
  intro so h₂ F₂ N₂ l₂
  have X2 : (hd.heap_39 w.params).In h₂ := X.keeps F₂.keep
  refine attr_super_missing X2 (F₂.keep _ _ hb) (N₂ _ (.head _)).1 ?_
  have kp3 : ∀ a o, h₂.get? a = some o → (h₂.push (boundMissing b)).get? a = some o := fun a o e => Heap.get?_push_of_some _ e
  have hbm : (h₂.push (boundMissing b)).get? h₂.objs.size = some (boundMissing b) := Heap.get?_push_size _ rfl
  have F₃ := F₂.push (boundMissing b)
  generalize h₂.push (boundMissing b) = h₃ at kp3 hbm F₃ ⊢
  have Z3 := Z.keeps F₃.keep
  refine getattr3_some (X.keeps F₃.keep) (F₃.keep _ _ hb) (F₃.keep _ _ hdx) rfl ?_
  obtain ⟨hb3, ⟨hs3, tk3, l3, hdx3, pk, p1, p2, p3, cell, pm2, c2, ctv2, oc, hp, hl2, hc2, he, ho⟩, ps, pm, c', ctv, hlf, hrec⟩ := Z3
  have e3 : l3 = l2 := by
    have := hdx3.symm.trans (F₃.keep _ _ hdx)
    injection this with this
    injection this with _ _ h3 _
    injection h3 with h3 _
    exact (by simpa using h3 : hs3 = hs ∧ tk3 = ftk ∧ l3 = l2).2.2
  subst e3
  refine callWith_machine (a := .str k t) ?_
  k_dflt (refine' nameX_L F₃ ?v ?_ ?a ?b; (case a => rfl); (case b => rfl); (case v => rfl))
  refine ⟨rfl, ⟨Keeper.frame, (Looks.ld hl2).andThen .now, by decide⟩, ?_⟩
  dsimp only
  refine lam_frozen hp (X.keeps F₃.keep) (T.nolimit.keeps F₃.keep) hl2 hc2 he ho hb3 hlf hrec ?_ (fun l h' tk' kp' hl hn => q l h' tk' (fun a o e => kp' a o (F₃.keep a o e)) hl ?_)
  · show A.depth + 1 + 1 < recursionLimit
    omega
  · cases e : h.get? l with
    | none => rfl
    | some o => rw [F₃.keep _ _ e] at hn; cases hn
end
end Mine
end

section
open PySem PySem.W PySem.Calls PyProof.Rows Builtin Builtin.ObjectAttr
namespace Mine
set_option maxRecDepth 100000
set_option maxHeartbeats 1000000

section
variable {prog : Program} {w : World} {A : Around} {s : Shared} {K : Frag} {p : Program} {loose : List Str} {mean : ExcName → Option Value} {mg mb : Str → Option Value}
  {R : Result → Shared → Prop} {name qual : Str} {params : Arguments} {body : List Stmt} {scope : Scope} {dV kV doc pm cdv ct oc : Value} {an od : Option Addr} {osl : Array (Option Value)} {f cc : Addr} {args : Args} {binds : List (Str × Value)}

theorem enterC (X : K.In s.heap) (T : Top p loose mean mg mb s.heap)
    (ho : K.lookup f = some ⟨oc, od, .func (fnOf name qual params body scope dV kV doc pm an cdv ct), osl⟩) (hcd : codeIn K cdv qual = true) (hroom : A.depth < recursionLimit)
    (hbind : BindsTo s (fnOf name qual params body scope dV kV doc pm an cdv ct) args binds) (hkind : (binds.all fun y => scope.names.lookup y.1 == some .local || scope.names.lookup y.1 == some .cell) = true)
    (h : ∀ L' h₁ tk, Fr s.heap L' h₁ (bindL (envOfC qual scope L' f cdv).kindOf binds fun _ => none) →
      (∀ n c, (cellsFrom (L' + 1) scope.names []).lookup n = some c → h₁.IsCell c (bindC (envOfC qual scope L' f cdv).kindOf binds (fun _ => none) n)) →
      wpAny (model prog w) (A.deeper (envOfC qual scope L' f cdv)) (execs body (envOfC qual scope L' f cdv))
        (fun fl s' => R (.ok (.ret (match fl with | .ret v => v | _ => .none))) s')
        (fun e s' => wpAny (model prog w) (A.deeper (envOfC qual scope L' f cdv)) (leaving (envOfC qual scope L' f cdv) e) (fun _ s'' => R (.error e) s'') (fun e' s'' => R (.error e') s'') s')
        { s with heap := h₁, toks := tk })
    (hco : scope.isCoroutine = false) (hgen : scope.isGenerator = false) (hk : scope.kind = .function) : codeAny (model prog w) A (.call (.ref f) args) R s := by
  refine codeAny_call_function hroom (X _ _ ho) rfl hco hgen rfl (codeRec_of X hcd) (hbind _ _ _ _ ?_)
  refine wpAny_newFunctionEnv_cells hk (kindsX hkind _) fun env' he s' x => ?_
  subst he
  have kp := x.toInCall.keep
  refine ⟨T.nolimit.keeps kp, codeAny_func ?_⟩
  obtain ⟨h₁, tk, rfl, _⟩ := x.done
  exact h _ h₁ tk ⟨x.toInCall.ns, kp, Nat.le_refl _⟩ x.cell
end

def TabSt (h : Heap) (P : Addr) (line col : Nat) (qual : Str) : Prop :=
  h.get? P = some (tabObj #[]) ∨ ∃ c', h.get? P = some (tabObj #[rawInt line, rawInt col, .ref c']) ∧ h.CodeRec (.ref c') qual
theorem TabSt.keeps {h h' : Heap} {P : Addr} {line col : Nat} {qual : Str} (x : TabSt h P line col qual) (k : ∀ a o, h.get? a = some o → h'.get? a = some o) : TabSt h' P line col qual := by
  rcases x with e | ⟨c', e, r⟩
  · exact .inl (k _ _ e)
  · exact .inr ⟨c', k _ _ e, r.keeps k⟩

section
variable {M : Model} {A : Around} {E : Value → Shared → Prop} {s : Shared} {name qual : Str} {params : Arguments} {body : PySem.Expr} {scope : Scope} {env : Env} {c P : Addr} {pos : Pos} {mg : Str → Option Value}
  {clos : List (Str × Addr)} {Q : Value → Shared → Prop}
/-- a lambda is made, its code object new or found -/
theorem lam_made (hdef : defaultsOf params env = ([], [])) (hcl : closureFor scope env = pure clos) (hge0 : env.globals = mainGlobals) (hg : s.heap.Ns mainGlobals mg) (hcode : env.code = .ref c) (C : CodeHd s.heap c P) (hP : TabSt s.heap P pos.line pos.col (env.qual ++ "<lambda>"))
    (hgP : mainGlobals ≠ P) (hb : s.heap.BuiltinsAt mg P)
    (h : ∀ c' pm ctv h' tk, (∀ a o, a ≠ P → s.heap.get? a = some o → h'.get? a = some o) → h'.get? P = some (tabObj #[rawInt pos.line, rawInt pos.col, .ref c']) → h'.CodeRec (.ref c') (env.qual ++ "<lambda>") →
      ∀ l, h'.get? l = some (kla_obj "<lambda>" (env.qual ++ "<lambda>") params body scope clos pm c' ctv) → s.heap.get? l = none → s.heap.objs.size ≤ l → Q (.ref l) { s with heap := h', toks := tk }) :
    wpAny M A (eval (.Lambda params body scope pos) env) Q E s := by
  have new : ∀ {h' : Heap} (o : Obj), s.heap.objs.size ≤ h'.objs.size → s.heap.get? h'.objs.size = none := fun o hs => Heap.get?_none_of_le hs
  refine kla_eval hdef ?_
  rcases hP with hP | ⟨c', hP, hr⟩
  · refine kla_makeFunction (ps := #[]) hcl hge0 hg hcode C hP trivial rfl hgP hb fun c' ctv h' tk hx hge hlt hrec htb => ?_
    have hr : (h'.push (kla_obj "<lambda>" (env.qual ++ "<lambda>") params body scope clos ((mg "__name__").getD .none) c' ctv)).CodeRec (.ref c') (env.qual ++ "<lambda>") := hrec.keeps fun a o e => Heap.get?_push_of_some _ e
    exact h c' _ ctv _ tk (fun a o na e => Heap.get?_push_of_some _ (hx a o na e)) (Heap.get?_push_of_some _ htb) hr _ (Heap.get?_push_size _ rfl) (new (h' := h') default (Nat.le_of_lt (Nat.lt_of_le_of_lt hge hlt))) (Nat.le_of_lt (Nat.lt_of_le_of_lt hge hlt))
  · have hf : codeAmong pos [rawInt pos.line, rawInt pos.col, .ref c'] = some (.ref c') := by simp [codeAmong, rawInt]
    refine kla_makeFunctionHit (ps := #[rawInt pos.line, rawInt pos.col, .ref c']) hcl hge0 hg hcode C hP (by simp [TriplesOk, rawInt]) hf hb fun ctv h' tk hk hsz => ?_
    have hr' : (h'.push (kla_obj "<lambda>" (env.qual ++ "<lambda>") params body scope clos ((mg "__name__").getD .none) c' ctv)).CodeRec (.ref c') (env.qual ++ "<lambda>") := (hr.keeps hk).keeps fun a o e => Heap.get?_push_of_some _ e
    exact h c' _ ctv _ tk (fun a o _ e => Heap.get?_push_of_some _ (hk a o e)) (Heap.get?_push_of_some _ (hk _ _ hP)) hr' _ (Heap.get?_push_size _ rfl) (new (h' := h') default hsz) hsz
end

section
variable {w : World} {A : Around} {E : Value → Shared → Prop} {h : Heap} {g : Array GenState} {d : Drawn} {tk : Nat} {os : OsState}
variable {b dx : Addr} {ep : Nat} {lf : Addr} {p : Program} {loose : List Str} {mean : ExcName → Option Value} {mg mb : Str → Option Value}

theorem fillFrag_LFreeze (w : World) : hd.heap_39 w.params = hd.heap_39 w.params ∧ PySem.Challenge.rw_il0158_01 = PySem.Challenge.rw_il0158_01 := by k_fill; exact ⟨rfl, rfl⟩
theorem mg_ne_tab (hg : h.Ns mainGlobals mg) {P : Addr} {ps : Array Value} (hP : h.get? P = some (tabObj ps)) : mainGlobals ≠ P := fun q => by
  obtain ⟨o, es, ep, e, hd, _⟩ := hg
  rw [q, hP] at e; cases e; cases hd
theorem builtinsAt_of (T : Top p loose mean mg mb h) {P : Addr} {ps : Array Value} (hP : h.get? P = some (tabObj ps)) : h.BuiltinsAt mg P := by
  obtain ⟨bm, ob, b1, b2, b3, b4, b5, b6⟩ := T.bmain
  refine ⟨bm, ob, b1, b2, fun q => ?_, fun q => ?_, b3, b4, b5, b6⟩
  · obtain ⟨o, es, ep, e, hd, _⟩ := T.g
    rw [q, e] at b3; cases b3; rw [hd] at b6; cases b6
  · rw [q, hP] at b3; cases b3; cases b4

theorem K57 (w : World) : (hd.heap_39 w.params).lookup 57 = none := by kernel_rfl
theorem K90 (w : World) : (hd.heap_39 w.params).lookup 90 = none := by kernel_rfl
theorem freeze_call {es : Array DictEntry} {ps : Pos} {pm ctv : Value} {c' : Addr} {Q : Value → Shared → Prop} (X : (hd.heap_39 w.params).In h) (T : Top p loose mean mg mb h) (hroom : A.depth + 2 < recursionLimit)
    (C : CodeHd h 61 57) (hP : TabSt h 57 16 23 "FreezableDefaultDict.freeze.<locals>.<lambda>") (hb : h.get? b = some ⟨.ref 65, some dx, .dict es ep, #[some (.ref lf)]⟩) (hdx : h.get? dx = some (dictOf [] 0))
    (hlf : h.get? lf = some (lamObj1 ps pm c' ctv)) (hcd : h.CodeRec (.ref c') "_law_filed.<locals>.<lambda>")
    (q : ∀ h' tk', (∀ a o, a ≠ dx → a ≠ 57 → h.get? a = some o → h'.get? a = some o) → Frozen w h' b dx es ep lf → TabSt h' 57 16 23 "FreezableDefaultDict.freeze.<locals>.<lambda>" → Q .none ⟨h', g, d, tk', os⟩) :
    wpAny (model PP w) A (call (.ref 62) [.ref b]) Q E ⟨h, g, d, tk, os⟩ := by
  refine wpAny_call ?_
  refine' enterC X T ?k6 ?k7 ?k8 ?k9 ?kB ?_ ?c2 ?c3 ?c4
  case k6 => k_is
  case k7 => k_is
  case k8 => omega
  case k9 => exact BindsTo.of_eq rfl
  case kB => exact rfl
  case c2 => exact rfl
  case c3 => exact rfl
  case c4 => exact rfl
  intro L' h₁ tk₁ F' hcells
  have hc0 := hcells "self" (L' + 1) rfl
  dsimp only at F' hc0 ⊢
  refine wpAny_of_wpAt fun c => ?_
  refine ks_wpAt_execs_cons ?_
  refine ks_wpAt_Assign_Attr ?_
  refine PySem.wpAt_of_wpAny ?_
  obtain ⟨oc, hoc, hocd⟩ := hc0
  have htab : ∃ pts, h.get? 57 = some (tabObj pts) := by
    rcases hP with e | ⟨c2, e, _⟩ <;> exact ⟨_, e⟩
  obtain ⟨pts, htab⟩ := htab
  have T1 := T.keeps F'.keep
  have hdne : dx ≠ 57 := fun e => by rw [e, htab] at hdx; cases hdx
  have hbne : b ≠ 57 := fun e => by rw [e, htab] at hb; cases hb
  have hbdx : b ≠ dx := fun e => by rw [e, hdx] at hb; cases hb
  have hlfdx : lf ≠ dx := fun e => by
    rw [e, hdx] at hlf
    have := congrArg (fun x => x.map Obj.cls) hlf
    simp at this
  have hlf57 : lf ≠ 57 := fun e => by rw [e, htab] at hlf; cases hlf
  refine lam_made (c := 61) (P := 57) (mg := mg) (clos := [("self", L' + 1)]) rfl rfl rfl T1.g rfl (C.keeps F'.keep) (hP.keeps F'.keep) (mg_ne_tab T.g htab) (builtinsAt_of T1 (F'.keep _ _ htab)) ?_
  intro c2 pm2 ctv2 h₂ tk₂ kp2 htab2 hrec2 l2 hl2 hl2n hl2s
  have hcell2 := kp2 _ _ (fun e => by rw [e, F'.keep _ _ htab] at hoc; cases hoc; cases hocd) hoc
  refine wpAny_Name (wpAny_loadName_cell (c := L' + 1) rfl rfl rfl ⟨oc, hcell2, hocd⟩ ?_) (by decide)
  have hb2 := kp2 _ _ hbne (F'.keep _ _ hb)
  have hdx2 := kp2 _ _ hdne (F'.keep _ _ hdx)
  have kpK : ∀ a o, (hd.heap_39 w.params).lookup a = some o → h₂.get? a = some o := fun a o e => kp2 a o (fun ea => by
    rw [ea, K57 w] at e; cases e) (F'.keep _ _ (X a o e))
  refine set_frozen kpK hb2 hdx2 fun h₃ tk₃ hs kp3 hdx3 _ => ?_
  dsimp only
  refine PySem.wpAt_of_wpAny (wpAny_pure ?_)
  have e57 : (57 : Nat) ≠ dx := fun e => hdne e.symm
  have hl2dx : l2 ≠ dx := fun e => by
    rw [e, hdx2] at hl2
    have := congrArg (fun x => x.map Obj.cls) hl2
    simp at this
  have hr2 := hrec2
  obtain ⟨c₂, oc₂, vs, t, e₂, hoc₂, hd₂, hv₂⟩ := hrec2
  cases e₂
  have hc2dx : c2 ≠ dx := fun e => by
    rw [e, hdx2] at hoc₂; cases hoc₂; cases hd₂
  have hrec3 : h₃.CodeRec (.ref c2) "FreezableDefaultDict.freeze.<locals>.<lambda>" := ⟨c2, oc₂, vs, t, rfl, kp3 _ _ hc2dx hoc₂, hd₂, hv₂⟩
  obtain ⟨c₁, oc₁, vs₁, t₁, e₁, hoc₁, hd₁, hv₁⟩ := hcd
  cases e₁
  have hc1dx : c' ≠ dx := fun e => by
    rw [e, hdx] at hoc₁; cases hoc₁; cases hd₁
  have hc157 : c' ≠ 57 := fun e => by
    rw [e, htab] at hoc₁; cases hoc₁
    cases hd₁
    rcases hP with e' | ⟨c2, e', _⟩ <;> (rw [htab] at e'; cases e'; simp [rawInt] at hv₁)
  have hcelldx : L' + 1 ≠ dx := fun e => by rw [e, hdx2] at hcell2; cases hcell2; cases hocd
  refine q _ _ (fun a o na nb e => kp3 a o na (kp2 a o nb (F'.keep a o e))) ⟨kp3 _ _ hbdx hb2, ⟨hs, _, l2, hdx3, ?_⟩, ⟨ps, pm, c', ctv, kp3 _ _ hlfdx (kp2 _ _ hlf57 (F'.keep _ _ hlf)), ⟨c', oc₁, vs₁, t₁, rfl, kp3 _ _ hc1dx (kp2 _ _ hc157 (F'.keep _ _ hoc₁)), hd₁, hv₁⟩⟩⟩ (.inr ⟨c2, kp3 _ _ e57 htab2, hrec3⟩)
  refine ⟨_, _, _, _, L' + 1, pm2, c2, ctv2, oc, ?_, kp3 _ _ hl2dx hl2, hrec3, kp3 _ _ hcelldx hcell2, hocd⟩
  rfl
end
end Mine
end

section
open PySem PySem.W PySem.Calls PyProof.Rows
namespace Mine
set_option maxRecDepth 100000
set_option maxHeartbeats 4000000

section
variable {w : World} {A : Around} {E : Value → Shared → Prop} {h : Heap} {g : Array GenState} {d : Drawn} {tk : Nat} {os : OsState}
variable {p : Program} {loose : List Str} {mean : ExcName → Option Value} {mg mb : Str → Option Value}
theorem fillFrag_LCram (w : World) : hd.heap_39 w.params = hd.heap_39 w.params ∧ PySem.Challenge.rw_il0158_01 = PySem.Challenge.rw_il0158_01 := by k_fill; exact ⟨rfl, rfl⟩

def preF (n : Int) : Int := if (n - 3).fdiv 2 > 0 then (n - 3).fdiv 2 else 0
def postF (n : Int) : Int := if n - 3 - preF n > 0 then n - 3 - preF n else 0
def cramF (t : Str) (n : Int) : Str := if n < (t.length : Int) then Txt.slice t none (some (preF n)) ++ "..." ++ Txt.slice t (some ((t.length : Int) - postF n)) none else t

theorem cram_spec {t : Str} {tt : Tok} {n : Int} {tn : Tok} {Q : Value → Shared → Prop} (X : (hd.heap_39 w.params).In h) (T : Top p loose mean mg mb h) (hroom : A.depth + 2 < recursionLimit) (hu : A.units + 20 < cLine) (hh : A.handled = none) (hlen : t.length ≤ 1000)
    (q : ∀ h' tk' tr, (∀ a o, h.get? a = some o → h'.get? a = some o) → Q (.str (cramF t n) tr) ⟨h', g, d, tk', os⟩) :
    wpAny (model PP w) A (call (.ref 39) [.str t tt, .int n tn]) Q E ⟨h, g, d, tk, os⟩ := by
  obtain ⟨ahd, adp, afr, agd, aun⟩ := A
  dsimp only at hroom hu hh
  subst hh
  refine wpAny_call ?_
  refine' enter0 X T ?k6 ?k7 ?k8 ?k9 ?kB ?_ ?c1 ?c2 ?c3 ?c4
  case k6 => k_is
  case k7 => k_is
  case k8 => dsimp only; omega
  case k9 => exact BindsTo.of_eq rfl
  case kB => exact locs rfl
  case c1 => decide
  case c2 => exact rfl
  case c3 => exact rfl
  case c4 => exact rfl
  intro L' h₁ F'
  have N' : News h L' h₁ [] := News.nil
  dsimp only at F' N' ⊢
  have TR := topRead_of T
  k_steps
  · rename n < (t.length : Int) => hlt
    rename Fr h L' _ _ => Fz
    have e : cramF t n = Txt.slice t none (some (if (n - 3).fdiv 2 > 0 then (n - 3).fdiv 2 else 0)) ++ "..." ++
      Txt.slice t (some ((t.length : Int) - if (n - 3 - if (n - 3).fdiv 2 > 0 then (n - 3).fdiv 2 else 0) > 0 then n - 3 - if (n - 3).fdiv 2 > 0 then (n - 3).fdiv 2 else 0 else 0)) none := by
      unfold cramF; rw [if_pos hlt]; rfl
    rw [← e]
    exact q _ _ _ Fz.keep
  · rename ¬ n < (t.length : Int) => hlt
    have e : cramF t n = t := by unfold cramF; rw [if_neg hlt]
    dsimp only
    have q' := q h₁ (by assumption) tt F'.keep
    rw [e] at q'
    exact q'
end
end Mine
end

section
open PySem PySem.W PySem.Calls PyProof.Rows
namespace Mine
set_option maxRecDepth 100000
set_option maxHeartbeats 4000000

section
variable {w : World} {A : Around} {E : Value → Shared → Prop} {h : Heap} {g : Array GenState} {d : Drawn} {tk : Nat} {os : OsState}
variable {p : Program} {loose : List Str} {mean : ExcName → Option Value} {mg mb : Str → Option Value}
theorem fillFrag_LLeft (w : World) : hd.heap_39 w.params = hd.heap_39 w.params ∧ PySem.Challenge.rw_il0158_01 = PySem.Challenge.rw_il0158_01 := by k_fill; exact ⟨rfl, rfl⟩

def leftF (key t : Str) (n : Int) : Bool :=
  if (t.length : Int) ≤ n then key == t
  else if (key.length : Int) = (if 3 > n then 3 else n) then
    if (Txt.slice key (some (((key.length : Int) - 3).fdiv 2)) (some (((key.length : Int) - 3).fdiv 2 + 3)) != "...") = true then false
    else if Txt.startswith t (Txt.slice key none (some (((key.length : Int) - 3).fdiv 2))) = true then Txt.endswith t (Txt.slice key (some (((key.length : Int) - 3).fdiv 2 + 3)) none) else false
  else false

theorem left_spec {key t : Str} {kt tt : Tok} {n : Int} {tn : Tok} {Q : Value → Shared → Prop} (X : (hd.heap_39 w.params).In h) (T : Top p loose mean mg mb h) (hroom : A.depth + 2 < recursionLimit) (hu : A.units + 20 < cLine) (hh : A.handled = none) (hlen : t.length ≤ 1000) (hklen : key.length ≤ 1000)
    (q : ∀ h' tk', (∀ a o, h.get? a = some o → h'.get? a = some o) → Q (.bool (leftF key t n)) ⟨h', g, d, tk', os⟩) :
    wpAny (model PP w) A (call (.ref 83) [.str key kt, .str t tt, .int n tn]) Q E ⟨h, g, d, tk, os⟩ := by
  obtain ⟨ahd, adp, afr, agd, aun⟩ := A
  dsimp only at hroom hu hh
  subst hh
  refine wpAny_call ?_
  refine' enter0 X T ?k6 ?k7 ?k8 ?k9 ?kB ?_ ?c1 ?c2 ?c3 ?c4
  case k6 => k_is
  case k7 => k_is
  case k8 => dsimp only; omega
  case k9 => exact BindsTo.of_eq rfl
  case kB => exact locs rfl
  case c1 => decide
  case c2 => exact rfl
  case c3 => exact rfl
  case c4 => exact rfl
  intro L' h₁ F'
  have N' : News h L' h₁ [] := News.nil
  dsimp only at F' N' ⊢
  have TR := topRead_of T
  k_steps
  all_goals (try dsimp only)
  · rename (t.length : Int) ≤ n => h1
    rename Fr h L' _ _ => Fz
    have e : leftF key t n = (key == t) := by unfold leftF; rw [if_pos h1]
    rw [← e]; exact q _ _ Fz.keep
  · rename ¬ (t.length : Int) ≤ n => h1
    rename (key.length : Int) ≠ _ => h2
    rename Fr h L' _ _ => Fz
    have e : leftF key t n = false := by unfold leftF; rw [if_neg h1, if_neg h2]
    rw [← e]; exact q _ _ Fz.keep
  · rename ¬ (t.length : Int) ≤ n => h1
    rename (key.length : Int) = _ => h2
    rename (Txt.slice key _ _ != _) = true => h3
    rename Fr h L' _ _ => Fz
    have e : leftF key t n = false := by unfold leftF; rw [if_neg h1, if_pos h2, if_pos h3]
    rw [← e]; exact q _ _ Fz.keep
  · rename ¬ (t.length : Int) ≤ n => h1
    rename (key.length : Int) = _ => h2
    rename (Txt.slice key _ _ != _) = false => h3
    rename Txt.startswith _ _ = true => h4
    rename Fr h L' _ _ => Fz
    have e : leftF key t n = Txt.endswith t (Txt.slice key (some (((key.length : Int) - 3).fdiv 2 + 3)) none) := by
      unfold leftF; rw [if_neg h1, if_pos h2, if_neg (by rw [h3]; decide), if_pos h4]
    rw [← e]; exact q _ _ Fz.keep
  · rename ¬ (t.length : Int) ≤ n => h1
    rename (key.length : Int) = _ => h2
    rename (Txt.slice key _ _ != _) = false => h3
    rename Txt.startswith _ _ = false => h4
    rename Fr h L' _ _ => Fz
    have e : leftF key t n = Txt.startswith t (Txt.slice key none (some (((key.length : Int) - 3).fdiv 2))) := by
      unfold leftF; rw [if_neg h1, if_pos h2, if_neg (by rw [h3]; decide), if_neg (by rw [h4]; decide), h4]
    rw [← e]; exact q _ _ Fz.keep
end
end Mine
end

section
open PySem PySem.W PySem.Calls PyProof.Rows
namespace Mine
set_option maxRecDepth 100000
set_option maxHeartbeats 1000000

section
variable {prog : Program} {w : World} {A : Around} {E : Value → Shared → Prop} {s : Shared} {env : Env}

theorem letGo_listiter {I l : Addr} {i : Nat} {target : PySem.Expr} {v : Value} {Q : Unit → Shared → Prop} (hi : s.heap.IsListIter I l i) (q : Q () s) : wpAny (model prog w) A (letOwnedTupleGo target (.ref I) v) Q E s := by
  obtain ⟨o, ho, hc, hd⟩ := hi
  unfold letOwnedTupleGo
  cases target with
  | Tuple es k p =>
    cases v with
    | ref a =>
      dsimp only
      refine wpAny_bind (wpAny_load ho ?_)
      rw [hc, hd]
      exact wpAny_pure q
    | _ => exact wpAny_pure q
  | List es p =>
    cases v with
    | ref a =>
      dsimp only
      refine wpAny_bind (wpAny_load ho ?_)
      rw [hc, hd]
      exact wpAny_pure q
    | _ => exact wpAny_pure q
  | _ => exact wpAny_pure q

theorem for_list {target iter : PySem.Expr} {body : List Stmt} {pos : Pos} {Q : Flow → Shared → Prop} {l : Addr} {its : Array Value} (hh : A.handled = none)
    (J : Addr → Nat → Shared → Prop)
    (hiter : wpAny (model prog w) A (eval iter env) (fun v s₁ => v = .ref l ∧ s₁.heap.IsList l its ∧ ∀ I h', (∀ b o, s₁.heap.get? b = some o → h'.get? b = some o) → I = s₁.heap.objs.size → J I 0 { s₁ with heap := h' }) E s)
    (stable : ∀ I i s h' tk, J I i s → (∃ oI, s.heap.get? I = some oI ∧ oI.cls = .type "list_iterator" ∧ ∃ (x : Addr) (j : Nat), oI.data = .fields #[.ref x, .int j 0]) → (∀ b o, b ≠ I → s.heap.get? b = some o → h'.get? b = some o) → J I i { s with heap := h', toks := tk })
    (turn : ∀ I i v s (E' : Value → Shared → Prop), its[i]? = some v → J I i s → l ≠ I → (∃ oI, s.heap.get? I = some oI ∧ oI.cls = .type "list_iterator" ∧ ∃ (x : Addr) (j : Nat), oI.data = .fields #[.ref x, .int j 0]) → s.heap.IsList l its →
      wpAny (model prog w) A (assign target env v) (fun _ s₂ => wpAny (model prog w) A (execs body env) (fun f s₃ => match f with
        | .next | .cont => J I (i + 1) s₃ ∧ (∀ o, s.heap.get? I = some o → s₃.heap.get? I = some o) ∧ s₃.heap.IsList l its
        | .brk => Q .next s₃
        | .ret v => Q (.ret v) s₃) E' s₂) E' s)
    (done : ∀ I s, J I its.size s → Q .next s)
    (hs : ∀ x, foldedSetIterable iter env x = pure x) :
    wpAny (model prog w) A (exec (.For target iter body [] pos) env) Q E s := by
  refine wpAny_For (wpAny_mono hiter (fun v s₁ hv => ?_) fun _ _ e => e) hs
  obtain ⟨rfl, hl, hJ⟩ := hv
  refine wpAny_pyIter_list hl ?_
  have hlt : l < s₁.heap.objs.size := by obtain ⟨_, e, _⟩ := hl; exact Heap.lt_size e
  have hne : l ≠ s₁.heap.objs.size := Nat.ne_of_lt hlt
  have kp : ∀ b o, s₁.heap.get? b = some o → (s₁.heap.push { cls := .type "list_iterator", data := .fields #[.ref l, .int 0 0] }).get? b = some o := fun b o e => Heap.get?_push_of_some _ e
  have W := Walks.list (prog := prog) (w := w) (A := A) hh s₁.heap.objs.size l hne its
  generalize hI : s₁.heap.objs.size = I at W hne
  refine codeAny_forLoop_any (fun k s' => ∃ i, i ≤ its.size ∧ k = its.size + 1 - i ∧ s'.heap.IsListIter I l i ∧ s'.heap.IsList l its ∧ J I i s') ?_ (its.size + 1)
    ⟨0, Nat.zero_le _, rfl, ⟨_, hI ▸ Heap.get?_push_size _ rfl, rfl, rfl⟩, hl.push _, hJ I _ kp hI.symm⟩
  rintro k s' ⟨i, hi, rfl, hit, hl', hJ'⟩
  by_cases hlt : i < its.size
  · refine W.item i _ _ _ hlt ⟨hit, hl'⟩ fun v h₂ tk₂ hPv hst₂ hk₂ => ?_
    have hJ2 := stable I i s' h₂ tk₂ hJ' (let ⟨o, e, c, dd⟩ := hit; ⟨o, e, c, _, _, dd⟩) (fun b o nb e => hk₂ b o (by simpa using nb) e)
    refine letGo_listiter hst₂.1 ?_
    have oI2 := hst₂.1
    obtain ⟨oI, eI, cI⟩ := oI2
    refine wpAny_mono (turn I i v _ _ hPv hJ2 hne ⟨oI, eI, cI.1, _, _, cI.2⟩ hst₂.2) (fun _ s₂ hb2 => wpAny_mono hb2 (fun f s₃ h₃ => ?_) fun _ _ e => e) fun _ _ e => e
    have fin : (J I (i + 1) s₃ ∧ (∀ o, h₂.get? I = some o → s₃.heap.get? I = some o) ∧ s₃.heap.IsList l its) → ∃ m, m < its.size + 1 - i ∧ ∃ i, i ≤ its.size ∧ m = its.size + 1 - i ∧ s₃.heap.IsListIter I l i ∧ s₃.heap.IsList l its ∧ J I i s₃ := fun ⟨a, b, c⟩ =>
      ⟨its.size + 1 - (i + 1), by omega, i + 1, hlt, rfl, ⟨oI, b _ eI, cI⟩, c, a⟩
    cases f with
    | next => exact fin h₃
    | cont => exact fin h₃
    | brk => exact h₃
    | ret v => exact h₃
  · obtain rfl : i = its.size := Nat.le_antisymm hi (Nat.not_lt.mp hlt)
    refine W.done _ _ _ ⟨hit, hl'⟩ fun h₂ tk₂ hk₂ => ?_
    have hJ2 := stable I _ s' h₂ tk₂ hJ' (let ⟨o, e, c, dd⟩ := hit; ⟨o, e, c, _, _, dd⟩) (fun b o nb e => hk₂ b o (by simpa using nb) e)
    exact wpAny_pure (done I _ hJ2)
end
end Mine
end

section
open PySem PySem.W PySem.Calls PyProof.Rows
namespace Mine
set_option maxRecDepth 100000
set_option maxHeartbeats 1000000

section
variable {prog : Program} {w : World} {A : Around} {E : Value → Shared → Prop} {h : Heap} {g : Array GenState} {d : Drawn} {tk : Nat} {os : OsState}

theorem extend_raw {a c : Addr} {xs ys : Array Value} {n m : Nat} {Q : Value → Shared → Prop} (ha : h.get? a = some (listOf xs n)) (hc : h.get? c = some (listOf ys m)) (hsz : xs.size + ys.size ≤ 1000)
    (q : ∀ h' n', (∀ x o, x ≠ a → h.get? x = some o → h'.get? x = some o) → h'.get? a = some (listOf (xs ++ ys) n') → Q .none ⟨h', g, d, tk, os⟩) :
    wpAny (model prog w) A (call (.builtin "list.extend") [.ref a, .ref c]) Q E ⟨h, g, d, tk, os⟩ := by
  have hsz' : xs.size + ys.size ≤ sizeLine := by rw [sizeLine_eq]; omega
  refine call_meets PySem.F.slot_list_extend (show (⟨h, g, d, tk, os⟩ : Shared).TypeIs (.ref a) "list" from ⟨_, ha, rfl⟩) PySem.F.entry_list_extend (PySem.F.args_list_extend_2 _ _) (AutoSeq1.list_extend_list_list_0 a xs n c ys m (extend_door hsz') (Nat.le_trans (Nat.le_add_right _ _) hsz') (Nat.le_succ_of_le hsz')) ⟨ha, hc, ?_⟩
  refine q (h.update a (Obj.mapSeq fun x => x ++ ys)) (if (xs ++ ys).size == xs.size then n else n + 1) (fun x o nx e => (Heap.get?_update_other h _ (Ne.symm nx)).trans e) ?_
  rw [Heap.get?_update_self _ ha (by rw [mapSeq_app]; rfl), mapSeq_app]
end

section
variable {prog : Program} {w : World} {A : Around} {E : Value → Shared → Prop} {s : Shared} {env : Env} {c₀ : Heap} {m : Str → Option Value}

/-- a pair is unpacked into two local names -/
theorem assign_pair {x y : Str} {px py pos : Pos} {k : Nat} {t : Addr} {va vb : Value} {Q : Unit → Shared → Prop} (hh : A.handled = none) (ht : s.heap.IsTuple t #[va, vb]) (F : Fr c₀ env.locals s.heap m)
    (hx : env.kindOf x = some .local) (hy : env.kindOf y = some .local) (hp : (env.scope.kind == .class || (env.scope.kind == .module && env.locals != env.globals)) = false)
    (q : ∀ h' tk', Fr c₀ env.locals h' (fun z => if z = y then some vb else if z = x then some va else m z) → (∀ b o, b ≠ env.locals → s.heap.get? b = some o → h'.get? b = some o) → Q () { s with heap := h', toks := tk' }) :
    wpAny (model prog w) A (assign (.Tuple [.Name x px, .Name y py] k pos) env (.ref t)) Q E s := by
  refine wpAny_assign_Tuple hh ht rfl rfl fun h₁ hx₁ => ?_
  have k1 : ∀ b o, s.heap.get? b = some o → h₁.get? b = some o := fun b o e => hx₁ b o (Nat.ne_of_lt (Heap.lt_size e)) e
  have F₁ : Fr c₀ env.locals h₁ m := F.keeps k1
  show wpAny (model prog w) A (assignInOrder [assign (.Name x px) env, assign (.Name y py) env] [va, vb]) Q E _
  unfold assignInOrder
  refine wpAny_bind (wpAny_holding (wpAny_assign_Name (wpAny_storeName_local hx F₁.ns (fun h₂ hn₂ hs₂ => ?_) hp)))
  have F₂ := F₁.set hn₂ hs₂
  unfold assignInOrder
  refine wpAny_bind (wpAny_holding (wpAny_assign_Name (wpAny_storeName_local hy F₂.ns (fun h₃ hn₃ hs₃ => ?_) hp)))
  unfold assignInOrder
  exact wpAny_pure (q _ _ (F₂.set hn₃ hs₃) fun b o nb e => (hs₃.2 b nb).trans ((hs₂.2 b nb).trans (k1 b o e)))
end
end Mine
end

section
open PySem PySem.W PySem.Calls PyProof.Rows
namespace Mine
set_option maxRecDepth 100000
set_option maxHeartbeats 1000000

section
variable {M : Model} {A : Around} {E : Value → Shared → Prop} {s : Shared} {env : Env}
theorem x_cons {st : Stmt} {rest : List Stmt} {Q : Flow → Shared → Prop} (h : wpAny M A (exec st env) (fun f s' => match f with | .next => wpAny M A (execs rest env) Q E s' | f => Q f s') E s) : wpAny M A (execs (st :: rest) env) Q E s := by
  rw [execs_cons]
  refine wpAny_bind (wpAny_mono h (fun f s' h' => ?_) fun _ _ e => e)
  cases f <;> first | exact h' | exact wpAny_pure h'
theorem x_nil {Q : Flow → Shared → Prop} (h : Q .next s) : wpAny M A (execs [] env) Q E s := wpAny_pure h
theorem x_ret {e : PySem.Expr} {pos : Pos} {Q : Flow → Shared → Prop} (h : wpAny M A (eval e env) (fun v => Q (.ret v)) E s) : wpAny M A (exec (.Return (some e) pos) env) Q E s :=
  wpAny_of_wpAt fun _ => ks_wpAt_Return_some (PySem.wpAt_of_wpAny h)
theorem x_assign {x : Str} {pos' pos : Pos} {value : PySem.Expr} {Q : Flow → Shared → Prop} (h : wpAny M A (eval value env) (fun v s₁ => wpAny M A (storeName env x v) (fun _ => Q .next) E s₁) E s)
    (hs : swapsWith value (some (.Name x pos')) pos.line env = pure false) : wpAny M A (exec (.Assign [.Name x pos'] value pos) env) Q E s :=
  wpAny_of_wpAt fun _ => ks_wpAt_Assign_Name (PySem.wpAt_of_wpAny h) hs
theorem x_call_name {id : Str} {p pos : Pos} {args : List PySem.Expr} {Q : Value → Shared → Prop}
    (h : wpAny M A (eval (.Name id p) env) (fun f s₁ => wpAny M A (callWith pos f [] (backTo pos (starEach args env)) []) Q E s₁) E s) : wpAny M A (eval (.Call (.Name id p) args [] pos) env) Q E s := by
  rw [arm_eval_Call_Name']
  exact wpAny_bind h

theorem callWith_args {pos : Pos} {f : Value} {first : List Value} {x : Sem Value} {rest : List (Bool × Sem Value)} {Q : Value → Shared → Prop} (hr : rest.any (·.1) = false)
    (h : wpAny M A (spliced ((false, x) :: rest)) (fun vs s₁ => (∃ kp, Looks M s₁.heap (keeperOf f) kp ∧ kp ≠ .caller) ∧ wpAny M A (call f (first ++ vs)) Q E s₁) E s) : wpAny M A (callWith pos f first ((false, x) :: rest) []) Q E s := by
  unfold callWith
  refine wpAny_bind (wpAny_holding (evalArgs_plain (wpAny_mono h (fun vs s₁ h₁ => ?_) fun _ _ e => e)))
  obtain ⟨⟨kp, hk, hne⟩, hc⟩ := h₁
  refine wpAny_bind (wpAny_standAt ?_)
  have tail : ∀ {t : Sem Value}, wpAny M A t Q E s₁ → wpAny M A (t >>= fun r => holding [r] point >>= fun _ => pure r) Q E s₁ :=
    fun ht => wpAny_bind (wpAny_mono ht (fun r s₂ hr => wpAny_bind (wpAny_holding (wpAny_point (wpAny_pure hr)))) fun _ _ x => x)
  have marked (mk : Value) : wpAny M A (callMarked mk f (first ++ vs) []) Q E s₁ := by unfold callMarked; exact Calls.wpAny_keep hc
  simp only [List.any_cons, List.any_nil, Bool.or_false, hr]
  refine wpAny_bind (hk.here ?_)
  cases kp <;> first | exact absurd rfl hne | exact tail hc | exact tail (marked _) | (dsimp only; split <;> first | exact tail hc | exact tail (marked _))

theorem callWith_none {pos : Pos} {f : Value} {first : List Value} {Q : Value → Shared → Prop} {kp : Keeper} (hk : Looks M s.heap (keeperOf f) kp) (hne : kp ≠ .caller) (hc : wpAny M A (call f first) Q E s) : wpAny M A (callWith pos f first [] []) Q E s := by
  unfold callWith
  refine wpAny_bind (wpAny_holding (evalArgs_nil3 ?_))
  refine wpAny_bind (wpAny_standAt ?_)
  have tail : ∀ {t : Sem Value}, wpAny M A t Q E s → wpAny M A (t >>= fun r => holding [r] point >>= fun _ => pure r) Q E s :=
    fun ht => wpAny_bind (wpAny_mono ht (fun r s₂ hr => wpAny_bind (wpAny_holding (wpAny_point (wpAny_pure hr)))) fun _ _ x => x)
  have hc' : wpAny M A (call f (first ++ []) []) Q E s := by rw [List.append_nil]; exact hc
  have marked (mk : Value) : wpAny M A (callMarked mk f (first ++ []) []) Q E s := by unfold callMarked; exact Calls.wpAny_keep hc'
  simp only [List.any_nil, Bool.or_false]
  refine wpAny_bind (hk.here ?_)
  cases kp <;> first | exact absurd rfl hne | exact tail hc' | exact tail (marked _)

theorem rname_L {x : Str} {pos : Pos} {m : Str → Option Value} {v : Value} {Q : Value → Shared → Prop} (hn : s.heap.Ns env.locals m) (hv : m x = some v) (h : Q v s) (hk : env.scope.kind = .function) (hx : env.kindOf x = some .local) (hd : (x == ("__debug__" : Str)) = false := by decide) :
    wpAny M A (eval (.Name x pos) env) Q E s := wpAny_Name (wpAny_loadName_local hk hx hn hv h) hd
end

section
variable {prog : Program} {w : World} {A : Around} {E : Value → Shared → Prop} {s : Shared} {env : Env}
theorem x_expr {e : PySem.Expr} {pos : Pos} {Q : Flow → Shared → Prop} (h : wpAny (model prog w) A (eval e env) (fun _ => Q .next) E s)
    (hi : interactive env = false) (hs : swapsWith e none pos.line env = pure false) : wpAny (model prog w) A (exec (.Expr e pos) env) Q E s :=
  wpAny_of_wpAt fun _ => ks_wpAt_Expr_any (PySem.wpAt_of_wpAny h) hi hs
theorem x_meth {o : PySem.Expr} {name : Str} {apos pos : Pos} {args : List PySem.Expr} {Q : Value → Shared → Prop}
    (h : wpAny (model prog w) A (attributeBase o name env (eval o env)) (fun ov s₁ => wpAny (model prog w) A (getMethod ov name (do return (← importBound o env).getD true)) (fun fx s₂ => wpAny (model prog w) A (callWith pos fx.1 fx.2 (backTo pos (starEach args env)) []) Q E s₂) E s₁) E s)
    (he : eval (.Call (.Attribute o name apos) args [] pos) env = (do
      let ov ← attributeBase o name env (eval o env)
      standAt apos.atName
      let (f, first) ← holding [ov] (getMethod ov name (do return (← importBound o env).getD true))
      callWith pos f first (backTo pos (starEach args env)) [])) :
    wpAny (model prog w) A (eval (.Call (.Attribute o name apos) args [] pos) env) Q E s :=
  wpAny_of_wpAt fun _ => ks_wpAt_MethodCall (PySem.wpAt_of_wpAny h) he
theorem x_global {K : Frag} {x : Str} {pos : Pos} {v : Value} {Q : Value → Shared → Prop} {p : Program} {loose : List Str} {mean : ExcName → Option Value} {mg mb : Str → Option Value} (X : K.In s.heap) (T : Top p loose mean mg mb s.heap) (e : nsIn K mainGlobals x = some (some v)) (h : Q v s)
    (hk : env.scope.kind = .function) (hx : env.kindOf x = some .globalImplicit) (hg : env.globals = mainGlobals) (hd : (x == ("__debug__" : Str)) = false := by decide) :
    wpAny (model prog w) A (eval (.Name x pos) env) Q E s := Name_function_global hk hx (loadGlobal_global (env := env) (hg ▸ T.g) (mg_of X T.g e) h) hd
theorem x_store {x : Str} {v : Value} {c₀ : Heap} {m : Str → Option Value} {Q : Unit → Shared → Prop} (F : Fr c₀ env.locals s.heap m) (hx : env.kindOf x = some .local) (hp : (env.scope.kind == .class || (env.scope.kind == .module && env.locals != env.globals)) = false)
    (q : ∀ h', Fr c₀ env.locals h' (fun z => if z = x then some v else m z) → (∀ b o, b ≠ env.locals → s.heap.get? b = some o → h'.get? b = some o) → Q () { s with heap := h', toks := s.toks + 1 }) :
    wpAny (model prog w) A (storeName env x v) Q E s :=
  wpAny_storeName_local hx F.ns (fun h' hn hs => q h' (F.set hn hs) fun b o nb e => (hs.2 b nb).trans e) hp
end

section
variable {M : Model} {A : Around} {E : Value → Shared → Prop} {s : Shared}
theorem sp_nil {Q : List Value → Shared → Prop} (h : Q [] s) : wpAny M A (spliced []) Q E s := PySem.Calls.spliced_nil h
theorem sp_cons {x y : Sem Value} {rest : List (Bool × Sem Value)} {Q : List Value → Shared → Prop}
    (h : wpAny M A x (fun v s₁ => wpAny M A (spliced rest) (fun vs s₂ => Q (v :: vs) s₂) E s₁) E s) : wpAny M A (spliced ((false, if false = true then y else x) :: rest)) Q E s :=
  PySem.Calls.spliced_cons (by rw [if_neg (by decide)]; exact h)
end
end Mine
end

section
open PySem PySem.W PySem.Calls PyProof.Rows
namespace Mine
set_option maxRecDepth 100000
set_option maxHeartbeats 1000000

/-- what filing does: the plain reading -/
def addTo (acc : List (Str × List Int)) (k : Str) (ps : List Int) : List (Str × List Int) :=
  if acc.any (fun r => r.1 == k) then acc.map (fun r => if r.1 == k then (r.1, r.2 ++ ps) else r) else acc ++ [(k, ps)]
def filedF (its : List (Str × List Int)) (n : Int) : List (Str × List Int) := its.foldl (fun acc i => addTo acc (cramF i.1 n) i.2) []

def rowData (r : Row) : Str × List Int := (r.key, r.places)
def RowsOk (rows : List Row) : Prop := rows.Pairwise (fun a b => a.key ≠ b.key ∧ a.addr ≠ b.addr)

theorem RowsOk.eq_of_key : ∀ {rows : List Row}, RowsOk rows → ∀ {r r' : Row}, r ∈ rows → r' ∈ rows → r.key = r'.key → r = r'
  | [], _, _, _, h, _, _ => nomatch h
  | a :: l, ok, r, r', h, h', e => by
    rw [RowsOk, List.pairwise_cons] at ok
    rcases List.mem_cons.mp h with rfl | g1 <;> rcases List.mem_cons.mp h' with rfl | g2
    · rfl
    · exact absurd e (ok.1 _ g2).1
    · exact absurd e.symm (ok.1 _ g1).1
    · exact RowsOk.eq_of_key ok.2 g1 g2 e
theorem RowsOk.addr_ne : ∀ {rows : List Row}, RowsOk rows → ∀ {r r' : Row}, r ∈ rows → r' ∈ rows → r.key ≠ r'.key → r.addr ≠ r'.addr
  | [], _, _, _, h, _, _ => nomatch h
  | a :: l, ok, r, r', h, h', e => by
    rw [RowsOk, List.pairwise_cons] at ok
    rcases List.mem_cons.mp h with rfl | g1 <;> rcases List.mem_cons.mp h' with rfl | g2
    · exact absurd rfl e
    · exact (ok.1 _ g2).2
    · exact fun q => (ok.1 _ g1).2 q.symm
    · exact RowsOk.addr_ne ok.2 g1 g2 e

def updRow (k : Str) (vs : List Value) (ep : Nat) (ps : List Int) (r : Row) : Row := if r.key = k then { r with vals := r.vals ++ vs, ep := ep, places := r.places ++ ps } else r
theorem updRow_key (k vs ep ps) (r : Row) : (updRow k vs ep ps r).key = r.key := by unfold updRow; split <;> rfl
theorem updRow_addr (k vs ep ps) (r : Row) : (updRow k vs ep ps r).addr = r.addr := by unfold updRow; split <;> rfl
theorem updRow_entry (w : World) (k vs ep ps) (r : Row) : entryOf w (updRow k vs ep ps r) = entryOf w r := by unfold updRow; split <;> rfl
theorem updRow_data (k vs ep ps) (r : Row) : rowData (updRow k vs ep ps r) = if (rowData r).1 == k then ((rowData r).1, (rowData r).2 ++ ps) else rowData r := by
  unfold updRow rowData
  by_cases h : r.key = k <;> simp [h]
theorem updRow_ok {rows : List Row} {k vs ep ps} (ok : RowsOk rows) : RowsOk (rows.map (updRow k vs ep ps)) := by
  unfold RowsOk
  rw [List.pairwise_map]
  exact List.Pairwise.imp (fun {a b} h => by rw [updRow_key, updRow_key, updRow_addr, updRow_addr]; exact h) ok

theorem any_of_find {rows : List Row} {k : Str} {r : Row} (h : rows.find? (fun r => r.key == k) = some r) : r ∈ rows ∧ r.key = k ∧ ((rows.map rowData).any fun r => r.1 == k) = true := by
  have h1 := List.mem_of_find?_eq_some h
  have h2 : r.key = k := by simpa using List.find?_some h
  refine ⟨h1, h2, List.any_eq_true.mpr ⟨rowData r, List.mem_map_of_mem h1, by simp [rowData, h2]⟩⟩
theorem none_of_find {rows : List Row} {k : Str} (h : rows.find? (fun r => r.key == k) = none) : (∀ r ∈ rows, r.key ≠ k) ∧ ((rows.map rowData).any fun r => r.1 == k) = false := by
  have h1 : ∀ r ∈ rows, r.key ≠ k := fun r hr => by simpa using List.find?_eq_none.mp h r hr
  refine ⟨h1, ?_⟩
  rw [List.any_eq_false]
  intro x hx
  obtain ⟨r, hr, rfl⟩ := List.mem_map.mp hx
  simpa [rowData] using h1 r hr
theorem data_hit {rows : List Row} {k : Str} {r : Row} {vs ep ps} (h : rows.find? (fun r => r.key == k) = some r) : (rows.map (updRow k vs ep ps)).map rowData = addTo (rows.map rowData) k ps := by
  unfold addTo
  rw [if_pos (any_of_find h).2.2, List.map_map, List.map_map]
  refine List.map_congr_left fun r _ => ?_
  simp only [Function.comp]
  exact updRow_data ..
theorem data_miss {rows : List Row} {k : Str} {new : Row} {ps} (h : rows.find? (fun r => r.key == k) = none) (hk : new.key = k) (hp : new.places = ps) : (rows ++ [new]).map rowData = addTo (rows.map rowData) k ps := by
  unfold addTo
  rw [if_neg (by rw [(none_of_find h).2]; decide), List.map_append]
  simp [rowData, hk, hp]
end Mine
end

section
open PySem PySem.W PySem.Calls PyProof.Rows
namespace Mine
set_option maxRecDepth 100000
set_option maxHeartbeats 2000000

structure It where
  tup : Addr
  key : Str
  tok : Tok
  pl : Addr
  vals : List Value
  ep : Nat
  places : List Int
  tn : Nat
def ItAt (h : Heap) (i : It) : Prop :=
  h.get? i.tup = some { cls := .type "tuple", data := .seq #[.str i.key i.tok, .ref i.pl] i.tn } ∧ h.get? i.pl = some (listOf i.vals.toArray i.ep) ∧ IntsAre i.vals i.places
def itData (i : It) : Str × List Int := (i.key, i.places)
def sumB (its : List It) : Nat := (its.map fun i => i.places.length).sum

structure RowsAt (h : Heap) (rows : List Row) : Prop where
  at_ : ∀ r ∈ rows, h.get? r.addr = some (listOf r.vals.toArray r.ep) ∧ IntsAre r.vals r.places
  ok : RowsOk rows

theorem RowsAt.keeps {h h' : Heap} {rows : List Row} (x : RowsAt h rows) (k : ∀ a o, h.get? a = some o → h'.get? a = some o) : RowsAt h' rows := ⟨fun r hr => ⟨k _ _ (x.at_ r hr).1, (x.at_ r hr).2⟩, x.ok⟩

/-- the loop's state -/
structure JF (w : World) (c₀ h₃ : Heap) (b dx lf L : Addr) (n : Int) (tn : Tok) (its : List It) (I : Addr) (i : Nat) (H : Heap) (rows : List Row) (ep : Nat) (m : Str → Option Value) : Prop where
  F : Fr c₀ L H m
  hbk : m "book" = some (.ref b)
  hwd : m "width" = some (.int n tn)
  keep : ∀ a o, a ≠ L → a ≠ b → h₃.get? a = some o → H.get? a = some o
  bk : H.get? b = some (bookObj dx (rows.map (entryOf w)) ep (.ref lf))
  lists : RowsAt H rows
  new : ∀ r ∈ rows, h₃.get? r.addr = none ∧ r.addr ≠ I
  data : rows.map rowData = filedF ((its.take i).map itData) n
  len : ∀ r ∈ rows, r.places.length ≤ sumB (its.take i)
  rlen : rows.length ≤ i
  bI : b ≠ I
  LI : L ≠ I
  hI : h₃.get? I = none

section
variable {w : World} {A : Around} {E : Value → Shared → Prop} {h : Heap} {g : Array GenState} {d : Drawn} {tk : Nat} {os : OsState}
variable {p : Program} {loose : List Str} {mean : ExcName → Option Value} {mg mb : Str → Option Value}
theorem fillFrag_LFiled2 (w : World) : hd.heap_39 w.params = hd.heap_39 w.params ∧ PySem.Challenge.rw_il0158_01 = PySem.Challenge.rw_il0158_01 := by k_fill; exact ⟨rfl, rfl⟩

theorem take_snoc {α : Type} {l : List α} {i : Nat} {x : α} (h : l[i]? = some x) : l.take (i + 1) = l.take i ++ [x] := by
  rw [List.take_add_one, h]; rfl
theorem sumB_snoc {its : List It} {i : Nat} {it : It} (h : its[i]? = some it) : sumB (its.take (i + 1)) = sumB (its.take i) + it.places.length := by
  rw [take_snoc h]; simp [sumB]
theorem filedF_snoc {its : List It} {i : Nat} {it : It} {n : Int} (h : its[i]? = some it) : filedF ((its.take (i + 1)).map itData) n = addTo (filedF ((its.take i).map itData) n) (cramF it.key n) it.places := by
  rw [take_snoc h]; simp [filedF, itData]
theorem sumB_take_le (its : List It) (i : Nat) : sumB (its.take i) ≤ sumB its := by
  have : sumB (its.take i ++ its.drop i) = sumB (its.take i) + sumB (its.drop i) := by
    unfold sumB; rw [List.map_append, List.sum_append]
  rw [List.take_append_drop] at this
  omega
theorem updRow_miss {rows : List Row} {k vs ep ps} {new : Row} (h : ∀ r ∈ rows, r.key ≠ k) : (rows ++ [new]).map (updRow k vs ep ps) = rows ++ [updRow k vs ep ps new] := by
  rw [List.map_append, List.map_singleton]
  congr 1
  conv => rhs; rw [← List.map_id rows]
  exact List.map_congr_left fun r hr => by unfold updRow; rw [if_neg (h r hr)]; rfl

theorem book_item {value slice : PySem.Expr} {b dx lf : Addr} {ck : Str} {tr : Tok} {rows : List Row} {ep : Nat} {ps : Pos} {pm ctv : Value} {c1 : Addr} {Q : Value → Shared → Prop} (X : (hd.heap_39 w.params).In h) (T : Top p loose mean mg mb h) (hroom : A.depth + 5 < recursionLimit) (hu : A.units + 30 < cLine) (hh : A.handled = none)
    (hsm : (b == sysModules) = false) (hb : h.get? b = some (bookObj dx (rows.map (entryOf w)) ep (.ref lf))) (hdx : h.get? dx = some (dictOf [] 0))
    (hlf : h.get? lf = some (lamObj1 ps pm c1 ctv)) (hcd : h.CodeRec (.ref c1) "_law_filed.<locals>.<lambda>") (lists : RowsAt h rows) (hsz : rows.length ≤ 1000)
    (q : ∀ r0 h7 tk7 rows7 ep7, (∀ x o, x ≠ b → h.get? x = some o → h7.get? x = some o) → h7.get? b = some (bookObj dx (rows7.map (entryOf w)) ep7 (.ref lf)) → r0 ∈ rows7 → r0.key = ck → RowsAt h7 rows7 →
      (∀ r ∈ rows7, r ∈ rows ∨ (h.get? r.addr = none ∧ r.places = [])) → (∀ vs ep' ps, (rows7.map (updRow ck vs ep' ps)).map rowData = addTo (rows.map rowData) ck ps) → rows7.length ≤ rows.length + 1 → Q (.ref r0.addr) ⟨h7, g, d, tk7, os⟩)
    (hsl : subscripted slice false (.ref b) (.str ck tr) = operate [.ref b, .str ck tr] (getItem (.ref b) (.str ck tr)) := by with_unfolding_all rfl) :
    wpAny (model PP w) A (subscriptTail value slice (.ref b) (.str ck tr)) Q E ⟨h, g, d, tk, os⟩ := by
  have rb : ∀ r ∈ rows, r.addr ≠ b := fun r hr e => by
    have := (lists.at_ r hr).1
    rw [e, hb] at this
    have := congrArg (fun x => x.map Obj.cls) this
    simp at this
  refine book_sub X hsm hb ?hit ?miss hsl
  case hit =>
    intro r0 hr0
    obtain ⟨r1, r2, r3⟩ := any_of_find hr0
    exact q r0 h _ rows ep (fun x o _ e => e) hb r1 r2 lists (fun r hr => .inl hr) (fun vs ep' ps => data_hit hr0) (Nat.le_succ _)
  case miss =>
    intro hnone
    obtain ⟨n1, n2⟩ := none_of_find hnone
    refine missing_new X T (show A.depth + 2 < recursionLimit by omega) (show A.units + 1 + 20 < cLine by omega) hh hsm hb hdx hlf hcd hnone hsz fun l h' tk' kp hl hln hb' => ?_
    have la : ∀ r ∈ rows, r.addr ≠ l := fun r hr e => by
      have := (lists.at_ r hr).1
      rw [e, hln] at this; cases this
    refine q ⟨ck, tr, l, [], 0, []⟩ h' _ (rows ++ [⟨ck, tr, l, [], 0, []⟩]) (ep + 1) kp hb' (List.mem_append_right _ (List.mem_singleton.mpr rfl)) rfl ⟨fun r hr => ?_, ?_⟩ (fun r hr => ?_) (fun vs ep' ps => ?_) (by simp)
    · rcases List.mem_append.mp hr with hr | hr
      · exact ⟨kp _ _ (rb r hr) (lists.at_ r hr).1, (lists.at_ r hr).2⟩
      · rw [List.mem_singleton.mp hr]; exact ⟨hl, .nil⟩
    · refine List.pairwise_append.mpr ⟨lists.ok, List.pairwise_singleton _ _, fun x hx y hy => ?_⟩
      rw [List.mem_singleton.mp hy]
      exact ⟨n1 x hx, la x hx⟩
    · rcases List.mem_append.mp hr with hr | hr
      · exact .inl hr
      · rw [List.mem_singleton.mp hr]; exact .inr ⟨hln, rfl⟩
    · rw [updRow_miss n1]
      exact data_miss hnone (by rw [updRow_key]) (by unfold updRow; simp)

end
end Mine
end

section
open PySem PySem.W PySem.Calls PyProof.Rows
namespace Mine
set_option maxRecDepth 100000
set_option maxHeartbeats 2000000

section
variable {w : World} {A : Around} {E : Value → Shared → Prop} {h : Heap} {g : Array GenState} {d : Drawn} {tk : Nat} {os : OsState}
variable {p : Program} {loose : List Str} {mean : ExcName → Option Value} {mg mb : Str → Option Value}
theorem fillFrag_LFiled3 (w : World) : hd.heap_39 w.params = hd.heap_39 w.params ∧ PySem.Challenge.rw_il0158_01 = PySem.Challenge.rw_il0158_01 := by k_fill; exact ⟨rfl, rfl⟩

theorem sumB_mem {its : List It} {i : Nat} {it : It} (h : its[i]? = some it) : sumB (its.take i) + it.places.length ≤ sumB its := by
  rw [← sumB_snoc h]; exact sumB_take_le its (i + 1)

theorem filed_spec {c₀ : Heap} {li : Addr} {its : List It} {n : Int} {tn : Tok} {Q : Value → Shared → Prop} (X : (hd.heap_39 w.params).In c₀) (T : Top p loose mean mg mb c₀) (KP : ∀ a o, c₀.get? a = some o → h.get? a = some o) (hcs : c₀.objs.size ≤ h.objs.size)
    (n57 : c₀.get? 57 = none) (n90 : c₀.get? 90 = none) (C61 : CodeHd c₀ 61 57) (C94 : CodeHd c₀ 94 90)
    (hP57 : TabSt h 57 16 23 "FreezableDefaultDict.freeze.<locals>.<lambda>") (hP90 : TabSt h 90 48 32 "_law_filed.<locals>.<lambda>")
    (hroom : A.depth + 10 < recursionLimit) (hu : A.units + 50 < cLine) (hh : A.handled = none)
    (hli : h.IsList li (its.map (fun i => Value.ref i.tup)).toArray) (hit : ∀ i ∈ its, ItAt h i) (hkey : ∀ i ∈ its, i.key.length ≤ 1000) (hlen : its.length ≤ 500) (hsum : sumB its ≤ 500)
    (q : ∀ b dx rows ep lf h' tk', (∀ a o, a ≠ 57 → a ≠ 90 → h.get? a = some o → h'.get? a = some o) → Frozen w h' b dx (rows.map (entryOf w)).toArray ep lf → RowsAt h' rows → h.get? b = none → (b == sysModules) = false → rows.map rowData = filedF (its.map itData) n →
      TabSt h' 57 16 23 "FreezableDefaultDict.freeze.<locals>.<lambda>" → TabSt h' 90 48 32 "_law_filed.<locals>.<lambda>" → Q (.ref b) ⟨h', g, d, tk', os⟩) :
    wpAny (model PP w) A (call (.ref 95) [.ref li, .int n tn]) Q E ⟨h, g, d, tk, os⟩ := by
  have XH := X.keeps KP
  have TH := T.keeps KP
  refine wpAny_call ?_
  refine' enter0 XH TH ?k6 ?k7 ?k8 ?k9 ?kB ?_ ?c1 ?c2 ?c3 ?c4
  case k6 => k_is
  case k7 => k_is
  case k8 => omega
  case k9 => exact BindsTo.of_eq rfl
  case kB => exact locs rfl
  case c1 => decide
  case c2 => exact rfl
  case c3 => exact rfl
  case c4 => exact rfl
  intro L' h₁ F'
  dsimp only at F' ⊢
  have T1 := TH.keeps F'.keep
  obtain ⟨pts, htab⟩ : ∃ pts, h.get? 90 = some (tabObj pts) := by
    rcases hP90 with e | ⟨c2, e, _⟩ <;> exact ⟨_, e⟩
  obtain ⟨pts7, htab7⟩ : ∃ pts, h.get? 57 = some (tabObj pts) := by
    rcases hP57 with e | ⟨c2, e, _⟩ <;> exact ⟨_, e⟩
  refine x_cons (x_assign (x_call_name ?_) rfl)
  refine x_global (XH.keeps F'.keep) T1 (by k_is) ?_ rfl rfl rfl
  refine callWith_args rfl (sp_cons ?_)
  refine lam_made (c := 94) (P := 90) (mg := mg) (clos := []) rfl rfl rfl T1.g rfl ((C94.keeps KP).keeps F'.keep) (hP90.keeps F'.keep) (mg_ne_tab TH.g htab) (builtinsAt_of T1 (F'.keep _ _ htab)) ?_
  intro c1 pm1 ctv1 h₂ tk₂ kp2 htab2 hrec2 lf hlf hlfn hlfs
  have KP2 : ∀ a o, c₀.get? a = some o → h₂.get? a = some o := fun a o e => kp2 a o (fun ea => by rw [ea, n90] at e; cases e) (F'.keep _ _ (KP a o e))
  have hL90 : (90 : Nat) ≠ L' := fun e => by
    have := F'.keep _ _ htab
    obtain ⟨oL, es, ep, eL, dL, _⟩ := F'.ns
    rw [e, eL] at this; cases this; cases dL
  have F2 : Fr c₀ L' h₂ _ := ⟨F'.ns.at' fun o e => kp2 L' o (Ne.symm hL90) e, KP2, Nat.le_trans hcs F'.above⟩
  refine sp_nil ?_
  obtain ⟨kpr, hkpr, hlk⟩ := looks_keep (M := model PP w) (K := hd.heap_39 w.params) (f := .ref 65) (by k_is) (X.keeps KP2)
  refine ⟨⟨kpr, hlk, by rcases hkpr with rfl | rfl <;> decide⟩, ?_⟩
  refine wpAny_call (mk_book (X.keeps KP2) hlf rfl fun h₃ kp3 hb3 hdx3 hsz3 => ?_)
  dsimp only
  have hb3n : h₂.get? (h₂.objs.size + 1) = none := Heap.get?_none_of_le (Nat.le_succ _)
  have hd3n : h₂.get? h₂.objs.size = none := Heap.get?_none_of_le (Nat.le_refl _)
  have h105 : (105 : Nat) < h₂.objs.size := Heap.lt_size ((X.keeps KP2) 105 _ (by k_is))
  have hb105 : h₂.objs.size + 1 ≠ sysModules := fun e => absurd (show (h₂.objs.size + 1 : Nat) = 1 from e) (by omega)
  generalize h₂.objs.size + 1 = b at hb3 hb3n hb105 ⊢
  generalize h₂.objs.size = dx at hb3 hdx3 hd3n
  have F3 : Fr c₀ L' h₃ _ := F2.keeps kp3
  refine x_store F3 rfl rfl fun h₄ F4 kp4 => ?_
  replace F4 : Fr c₀ L' h₄ _ := F4
  replace kp4 : ∀ a o, a ≠ L' → h₃.get? a = some o → h₄.get? a = some o := kp4
  dsimp only
  have hLs : ∀ {H : Heap} {m' : Str → Option Value}, H.Ns L' m' → ∃ oL, H.get? L' = some oL := fun ⟨oL, _, _, e, _⟩ => ⟨oL, e⟩
  obtain ⟨oL2, eL2⟩ := hLs F2.ns
  have bL : b ≠ L' := fun e => by rw [e, eL2] at hb3n; cases hb3n
  have dL : dx ≠ L' := fun e => by rw [e, eL2] at hd3n; cases hd3n
  obtain ⟨oL1, eL1⟩ := hLs F'.ns
  have lfL : lf ≠ L' := fun e => by rw [e, eL1] at hlfn; cases hlfn
  have old_ne : ∀ a o, h.get? a = some o → a ≠ L' := fun a o e => Nat.ne_of_lt (Nat.lt_of_lt_of_le (Heap.lt_size e) F'.above)
  have K4 : ∀ a o, a ≠ 90 → h.get? a = some o → h₄.get? a = some o := fun a o na e => kp4 a o (old_ne a o e) (kp3 a o (kp2 a o na (F'.keep a o e)))
  have hb4 := kp4 _ _ bL hb3
  have hdx4 := kp4 _ _ dL hdx3
  have hlf4 := kp4 _ _ lfL (kp3 _ _ hlf)
  have hrec4 : h₄.CodeRec (.ref c1) "_law_filed.<locals>.<lambda>" := by
    obtain ⟨cc, oc, vs, t, e, hoc, hdc, hv⟩ := hrec2
    refine ⟨cc, oc, vs, t, e, kp4 _ _ (fun ea => ?_) (kp3 _ _ hoc), hdc, hv⟩
    obtain ⟨oL, es, ep, eL, hdL, _⟩ := F2.ns
    rw [ea, eL] at hoc; cases hoc; rw [hdL] at hdc; cases hdc
  have htab4 := kp4 _ _ hL90 (kp3 _ _ htab2)
  have bold : h.get? b = none := by
    cases e : h.get? b with
    | none => rfl
    | some o =>
      by_cases e90 : b = 90
      · rw [e90, htab2] at hb3n; cases hb3n
      · rw [kp2 _ _ e90 (F'.keep _ _ e)] at hb3n; cases hb3n
  have it_old : ∀ i ∈ its, ItAt h₄ i ∧ i.tup ≠ L' ∧ i.tup ≠ b ∧ i.pl ≠ L' ∧ i.pl ≠ b := fun i hi => by
    obtain ⟨e1, e2, e3⟩ := hit i hi
    refine ⟨⟨K4 _ _ (fun ea => by rw [ea, htab] at e1; cases e1) e1, K4 _ _ (fun ea => by rw [ea, htab] at e2; cases e2) e2, e3⟩, old_ne _ _ e1, fun ea => ?_, old_ne _ _ e2, fun ea => ?_⟩
    · rw [ea, bold] at e1; cases e1
    · rw [ea, bold] at e2; cases e2
  have KP4 : ∀ a o, c₀.get? a = some o → h₄.get? a = some o := F4.keep
  have hli4 : h₄.IsList li (its.map (fun i => Value.ref i.tup)).toArray := by
    obtain ⟨o, e, hc, hd⟩ := hli
    exact ⟨o, K4 _ _ (fun ea => by rw [ea, htab] at e; cases e; cases hc) e, hc, hd⟩
  refine x_cons (for_list (l := li) (its := (its.map (fun i => Value.ref i.tup)).toArray) hh (fun I i s => ∃ H tks rows ep m, s = ⟨H, g, d, tks, os⟩ ∧ JF w c₀ h₄ b dx lf L' n tn its I i H rows ep m) ?hiter ?stable ?turn ?done ?hs)
  case hs => intro x; rfl
  case hiter =>
    refine rname_L F4.ns rfl ⟨rfl, hli4, fun I h' kp hI => ?_⟩ rfl rfl
    have hs4 : ∀ a o, h₄.get? a = some o → a ≠ I := fun a o e => hI ▸ Nat.ne_of_lt (Heap.lt_size e)
    obtain ⟨oL4, eL4⟩ := hLs F4.ns
    exact ⟨h', _, [], 0, _, rfl, { F := F4.keeps kp, hbk := rfl, hwd := rfl, keep := fun a o _ _ e => kp a o e, bk := kp _ _ hb4, lists := ⟨fun r hr => (nomatch hr), List.Pairwise.nil⟩, new := fun r hr => (nomatch hr), data := rfl, len := fun r hr => (nomatch hr), rlen := Nat.le_refl _, bI := hs4 _ _ hb4, LI := hs4 _ _ eL4, hI := by rw [hI]; exact Heap.get?_none_of_le (Nat.le_refl _) }⟩
  case stable =>
    rintro I i s h' tk' ⟨H, tks, rows, ep, m, rfl, j⟩ _ kp
    have F5 : Fr c₀ L' h' m := ⟨j.F.ns.at' fun o e => kp _ _ j.LI e, fun a o e => kp a o (fun ea => by have := KP4 a o e; rw [ea, j.hI] at this; cases this) (j.F.keep a o e), j.F.above⟩
    exact ⟨h', tk', rows, ep, m, rfl, { j with F := F5, keep := fun a o na nb e => kp a o (fun ea => by rw [ea, j.hI] at e; cases e) (j.keep a o na nb e), bk := kp _ _ j.bI j.bk, lists := ⟨fun r hr => ⟨kp _ _ (j.new r hr).2 (j.lists.at_ r hr).1, (j.lists.at_ r hr).2⟩, j.lists.ok⟩ }⟩
  case turn =>
    rintro I i v s E' hv ⟨H, tks, rows, ep, m, rfl, j⟩ lI ⟨oI, hoI, _⟩ hl
    obtain ⟨it, hiti, rfl⟩ : ∃ it, its[i]? = some it ∧ v = .ref it.tup := by
      rw [List.getElem?_toArray, List.getElem?_map] at hv
      cases e : its[i]? with
      | none => rw [e] at hv; cases hv
      | some it => rw [e] at hv; cases hv; exact ⟨it, rfl, rfl⟩
    have hmem : it ∈ its := List.mem_of_getElem? hiti
    obtain ⟨⟨e1, e2, e3⟩, tL, tb, pL, pb⟩ := it_old it hmem
    have ht : H.IsTuple it.tup #[.str it.key it.tok, .ref it.pl] := ⟨_, j.keep _ _ tL tb e1, rfl, _, rfl⟩
    refine assign_pair hh ht j.F rfl rfl rfl fun h5 tk5 F5 kp5 => ?_
    replace F5 : Fr c₀ L' h5 _ := F5
    replace kp5 : ∀ a o, a ≠ L' → H.get? a = some o → h5.get? a = some o := kp5
    have KP5 : ∀ a o, c₀.get? a = some o → h5.get? a = some o := F5.keep
    refine x_cons (x_expr (x_meth ?_ rfl) rfl rfl)
    show wpAny _ _ (PySem.eval (PySem.Expr.Subscript _ _ _) _) _ _ _
    refine Subscript_ ?_
    refine rname_L F5.ns (show _ = some (Value.ref b) from j.hbk) ?_ rfl rfl
    refine x_call_name ?_
    refine x_global (X.keeps KP5) (T.keeps KP5) (by k_is) ?_ rfl rfl rfl
    refine callWith_args rfl (sp_cons ?_)
    refine rname_L F5.ns (show _ = some (Value.str it.key it.tok) from rfl) ?_ rfl rfl
    refine sp_cons ?_
    refine rname_L F5.ns (show _ = some (Value.int n tn) from j.hwd) ?_ rfl rfl
    refine sp_nil ⟨⟨Keeper.frame, ?_, by decide⟩, ?_⟩
    · have := (X.keeps KP5) 39 _ (by k_is)
      exact (Looks.ld this).andThen .now
    refine cram_spec (X.keeps KP5) (T.keeps KP5) (show A.depth + 1 + 2 < recursionLimit by omega) (by rw [units_deeper]; omega) hh (hkey it hmem) fun h6 tk6 tr kp6 => ?_
    have sh6 : ∀ x o, x ≠ L' → x ≠ b → h₄.get? x = some o → h6.get? x = some o := fun x o nl nb e => kp6 x o (kp5 x o nl (j.keep x o nl nb e))
    have bk6 := kp6 _ _ (kp5 _ _ bL j.bk)
    have rL : ∀ r ∈ rows, r.addr ≠ L' := fun r hr e => by
      obtain ⟨oL4, eL4⟩ := hLs F4.ns
      have := (j.new r hr).1
      rw [e, eL4] at this; cases this
    have lists6 : RowsAt h6 rows := ⟨fun r hr => ⟨kp6 _ _ (kp5 _ _ (rL r hr) (j.lists.at_ r hr).1), (j.lists.at_ r hr).2⟩, j.lists.ok⟩
    have hdxb : dx ≠ b := fun e => by
      rw [e, hb4] at hdx4
      have := congrArg (fun x => x.map Obj.cls) hdx4
      simp at this
    have hlfb : lf ≠ b := fun e => by
      rw [e, hb4] at hlf4
      have := congrArg (fun x => x.map Obj.cls) hlf4
      simp at this
    have hrec6 : h6.CodeRec (.ref c1) "_law_filed.<locals>.<lambda>" := by
      obtain ⟨cc, oc, vs, t, e, hoc, hdc, hv⟩ := hrec4
      refine ⟨cc, oc, vs, t, e, sh6 _ _ (fun ea => ?_) (fun ea => ?_) hoc, hdc, hv⟩
      · obtain ⟨oL, es, ep, eL, hdL, _⟩ := F4.ns
        rw [ea, eL] at hoc; cases hoc; rw [hdL] at hdc; cases hdc
      · rw [ea, hb4] at hoc; cases hoc; cases hdc
    have X6 := X.keeps fun a o e => kp6 a o (KP5 a o e)
    have T6 := T.keeps fun a o e => kp6 a o (KP5 a o e)
    refine book_item X6 T6 ?hr ?hu hh ?hsm bk6 (sh6 _ _ dL hdxb hdx4) (sh6 _ _ lfL hlfb hlf4) hrec6 lists6 ?hsz ?_
    case hr => show A.depth + 1 + 5 < recursionLimit; omega
    case hu => rw [units_deeper]; omega
    case hsm => exact beq_false_of_ne hb105
    case hsz => have := j.rlen; have := (List.getElem?_eq_some_iff.mp hiti).1; omega
    intro r0 h7 tk7 rows7 ep7 kp7 bk7 r0m r0k lists7 new7 data7 len7
    have old4 : ∀ x o, h₄.get? x = some o → x ≠ L' → x ≠ b → h7.get? x = some o := fun x o e nl nb => kp7 x o nb (sh6 x o nl nb e)
    have n6 : ∀ x, h6.get? x = none → h₄.get? x = none := fun x e => by
      cases e4 : h₄.get? x with
      | none => rfl
      | some o =>
        by_cases xb : x = b
        · rw [xb, bk6] at e; cases e
        · by_cases xl : x = L'
          · obtain ⟨oL, eL⟩ := hLs F5.ns
            rw [xl, kp6 _ _ eL] at e; cases e
          · rw [sh6 x o xl xb e4] at e; cases e
    have hI6 : h6.get? I = some oI := kp6 _ _ (kp5 _ _ (Ne.symm j.LI) hoI)
    have new7' : ∀ r ∈ rows7, h₄.get? r.addr = none ∧ r.addr ≠ I ∧ r.places.length ≤ sumB (its.take i) := fun r hr => by
      rcases new7 r hr with h | ⟨h, e⟩
      · exact ⟨(j.new r h).1, (j.new r h).2, j.len r h⟩
      · exact ⟨n6 _ h, (fun ea => by rw [ea, hI6] at h; cases h), by rw [e]; exact Nat.zero_le _⟩
    have r7L : ∀ r ∈ rows7, r.addr ≠ L' ∧ r.addr ≠ b := fun r hr => by
      obtain ⟨oL4, eL4⟩ := hLs F4.ns
      exact ⟨(fun e => by have := (new7' r hr).1; rw [e, eL4] at this; cases this), (fun e => by have := (new7' r hr).1; rw [e, hb4] at this; cases this)⟩
    have cb : ∀ a o, c₀.get? a = some o → a ≠ b := fun a o e ea => by have := KP a o e; rw [ea, bold] at this; cases this
    have F7 : Fr c₀ L' h7 _ := ⟨F5.ns.at' fun o e => kp7 L' o (Ne.symm bL) (kp6 _ _ e), fun a o e => kp7 a o (cb a o e) (kp6 a o (KP5 a o e)), F5.above⟩
    have r0a := lists7.at_ r0 r0m
    have ePl4 := e2
    have ePl7 := old4 _ _ e2 pL pb
    refine getMethod_builtin (s := ⟨h7, g, d, tk7, os⟩) ⟨_, r0a.1, rfl⟩ PySem.F.plainAttrs_list PySem.F.slot_list_extend PySem.F.type_list_extend (fun a e => by cases e; exact ⟨_, r0a.1, rfl⟩) ?_
    refine callWith_args rfl (sp_cons ?_)
    refine rname_L F7.ns (show _ = some (Value.ref it.pl) from rfl) ?_ rfl rfl
    refine sp_nil ⟨⟨Keeper.machine, Looks.of_pure rfl, by decide⟩, ?_⟩
    have hlen0 := (new7' r0 r0m).2.2
    have hsm1 := sumB_mem hiti
    have hl1 := r0a.2.length
    have hl2 := e3.length
    refine extend_raw r0a.1 ePl7 (by rw [List.size_toArray, List.size_toArray]; omega) fun h8 n' kp8 hr8 => ?_
    have kp8' : ∀ x o, h₄.get? x = some o → x ≠ L' → x ≠ b → h8.get? x = some o := fun x o e nl nb => kp8 x o (fun ea => by have := (new7' r0 r0m).1; rw [← ea, e] at this; cases this) (old4 x o e nl nb)
    have bk8 := kp8 _ _ (Ne.symm (r7L r0 r0m).2) bk7
    have F8 : Fr c₀ L' h8 _ := ⟨F7.ns.at' fun o e => kp8 L' o (Ne.symm (r7L r0 r0m).1) e, fun a o e => kp8 a o (fun ea => by have := (new7' r0 r0m).1; rw [← ea, KP4 a o e] at this; cases this) (F7.keep a o e), F7.above⟩
    refine x_nil ⟨⟨h8, _, rows7.map (updRow (cramF it.key n) it.vals n' it.places), ep7, _, rfl, { F := F8, hbk := j.hbk, hwd := j.hwd, keep := fun a o na nb e => kp8' a o e na nb, bk := ?_, lists := ⟨fun r' hr' => ?_, updRow_ok lists7.ok⟩, new := fun r' hr' => ?_, data := ?_, len := fun r' hr' => ?_, rlen := ?_, bI := j.bI, LI := j.LI, hI := j.hI }⟩, fun o e => ?_, ?_⟩
    · rw [List.map_map, show (entryOf w ∘ updRow (cramF it.key n) it.vals n' it.places) = entryOf w from funext fun r => updRow_entry ..]
      exact bk8
    · obtain ⟨r, hr, rfl⟩ := List.mem_map.mp hr'
      by_cases hk : r.key = cramF it.key n
      · obtain rfl : r = r0 := RowsOk.eq_of_key lists7.ok hr r0m (hk.trans r0k.symm)
        rw [updRow_addr]
        unfold updRow
        rw [if_pos hk]
        exact ⟨by rw [hr8, List.append_toArray], r0a.2.append e3⟩
      · have e : updRow (cramF it.key n) it.vals n' it.places r = r := by unfold updRow; rw [if_neg hk]
        rw [e]
        exact ⟨kp8 _ _ (RowsOk.addr_ne lists7.ok hr r0m (fun q => hk (q.trans r0k))) (lists7.at_ r hr).1, (lists7.at_ r hr).2⟩
    · obtain ⟨r, hr, rfl⟩ := List.mem_map.mp hr'
      rw [updRow_addr]
      exact ⟨(new7' r hr).1, (new7' r hr).2.1⟩
    · rw [data7, j.data, filedF_snoc hiti]
    · obtain ⟨r, hr, rfl⟩ := List.mem_map.mp hr'
      have := (new7' r hr).2.2
      rw [sumB_snoc hiti]
      unfold updRow
      split
      · dsimp only; rw [List.length_append]; omega
      · omega
    · rw [List.length_map]; have := j.rlen; omega
    · exact kp8 _ _ (Ne.symm (new7' r0 r0m).2.1) (kp7 _ _ (Ne.symm j.bI) (kp6 _ _ (kp5 _ _ (Ne.symm j.LI) e)))
    · obtain ⟨o, e, hc, hd⟩ := hli4
      obtain ⟨o2, e2, hc2, hd2⟩ := hli
      have := old_ne _ _ e2
      exact ⟨o, kp8' _ _ e this (fun ea => by rw [ea, bold] at e2; cases e2), hc, hd⟩
  case done =>
    rintro I s ⟨H, tks, rows, ep, m, rfl, j⟩
    have KPH : ∀ a o, c₀.get? a = some o → H.get? a = some o := j.F.keep
    have XH2 := X.keeps KPH
    have TH2 := T.keeps KPH
    have hdxb : dx ≠ b := fun e => by
      rw [e, hb4] at hdx4
      have := congrArg (fun x => x.map Obj.cls) hdx4
      simp at this
    have hlfb : lf ≠ b := fun e => by
      rw [e, hb4] at hlf4
      have := congrArg (fun x => x.map Obj.cls) hlf4
      simp at this
    have hdxH := j.keep _ _ dL hdxb hdx4
    have hlfH := j.keep _ _ lfL hlfb hlf4
    have b_old : ∀ a o, h.get? a = some o → a ≠ b := fun a o e ea => by rw [ea, bold] at e; cases e
    have keepH : ∀ a o, a ≠ 90 → h.get? a = some o → H.get? a = some o := fun a o na e => j.keep a o (old_ne a o e) (b_old a o e) (K4 a o na e)
    have hrecH : H.CodeRec (.ref c1) "_law_filed.<locals>.<lambda>" := by
      obtain ⟨cc, oc, vs, t, e, hoc, hdc, hv⟩ := hrec4
      refine ⟨cc, oc, vs, t, e, j.keep _ _ (fun ea => ?_) (fun ea => ?_) hoc, hdc, hv⟩
      · obtain ⟨oL, es, ep, eL, hdL, _⟩ := F4.ns
        rw [ea, eL] at hoc; cases hoc; rw [hdL] at hdc; cases hdc
      · rw [ea, hb4] at hoc; cases hoc; cases hdc
    have hP57H : TabSt H 57 16 23 "FreezableDefaultDict.freeze.<locals>.<lambda>" := by
      rcases hP57 with e | ⟨c', e, hr⟩
      · exact .inl (keepH _ _ (by decide) e)
      · refine .inr ⟨c', keepH _ _ (by decide) e, ?_⟩
        obtain ⟨cc, oc, vs, t, e', hoc, hdc, hv⟩ := hr
        refine ⟨cc, oc, vs, t, e', keepH _ _ (fun ea => ?_) hoc, hdc, hv⟩
        rw [ea] at hoc
        rcases hP90 with e9 | ⟨c9, e9, _⟩ <;> (rw [e9] at hoc; cases hoc; cases hdc; simp [rawInt] at hv)
    refine x_cons (x_expr (meth0 rfl rfl ?_) rfl rfl)
    refine rname_L j.F.ns j.hbk ?_ rfl rfl
    refine freeze_method XH2 j.bk hdxH rfl ?_
    refine callWith_none (kp := .frame) ((Looks.ld (XH2 62 _ (by k_is))).andThen .now) (by decide) ?_
    refine freeze_call XH2 TH2 (show A.depth + 1 + 2 < recursionLimit by omega) (C61.keeps KPH) hP57H j.bk hdxH hlfH hrecH ?_
    intro h' tk' kp' Z htab'
    have d_old : ∀ a o, h.get? a = some o → a ≠ dx := fun a o e ea => by
      by_cases e90 : a = 90
      · rw [e90] at ea e; rw [← ea, htab2] at hd3n; cases hd3n
      · rw [← ea, kp2 _ _ e90 (F'.keep _ _ e)] at hd3n; cases hd3n
    have FH : Fr c₀ L' h' m := ⟨j.F.ns.at' fun o e => kp' L' o (Ne.symm dL) (fun ea => by have := old_ne _ _ htab7; exact this ea.symm) e, fun a o e => kp' a o (d_old _ _ (KP _ _ e)) (fun ea => by rw [ea, n57] at e; cases e) (KPH a o e), j.F.above⟩
    refine x_cons (x_ret ?_)
    refine rname_L FH.ns j.hbk ?_ rfl rfl
    have h57 : h₄.get? 57 = some (tabObj pts7) := K4 _ _ (by decide) htab7
    refine q b dx rows ep lf h' _ (fun a o na nb e => kp' a o (d_old a o e) na (keepH a o nb e)) Z ⟨fun r hr => ⟨kp' _ _ (fun ea => ?_) (fun ea => ?_) (j.lists.at_ r hr).1, (j.lists.at_ r hr).2⟩, j.lists.ok⟩ bold (beq_false_of_ne hb105) ?_ htab' /-hsmq-/ (.inr ⟨c1, kp' _ _ (d_old _ _ htab) (by decide) (j.keep _ _ hL90 (b_old _ _ htab) htab4), ?_⟩)
    · have := (j.new r hr).1; rw [ea, hdx4] at this; cases this
    · have := (j.new r hr).1; rw [ea, h57] at this; cases this
    · have := j.data
      rw [List.size_toArray, List.length_map, List.take_length] at this
      exact this
    · obtain ⟨cc, oc, vs, t, e', hoc, hdc, hv⟩ := hrecH
      refine ⟨cc, oc, vs, t, e', kp' _ _ (fun ea => ?_) (fun ea => ?_) hoc, hdc, hv⟩
      · rw [ea, hdxH] at hoc; cases hoc; cases hdc
      · rw [ea] at hoc
        rcases hP57H with e9 | ⟨c9, e9, _⟩ <;> (rw [e9] at hoc; cases hoc; cases hdc; simp [rawInt] at hv)
end
end Mine
end

section
open PySem PySem.W PySem.Calls PyProof.Rows
namespace Mine
set_option maxRecDepth 100000
set_option maxHeartbeats 1000000

/-- what is walked: the step with the tuple's letting go -/
structure Src (prog : Program) (w : World) (A : Around) (target : PySem.Expr) (I : Addr) (fp wr : List Addr) (n : Nat) (P : Nat → Value → Heap → Prop) (St : Nat → Heap → Prop) : Prop where
  sub : ∀ b ∈ wr, b ∈ fp
  frame : ∀ i h h', St i h → (∀ b ∈ fp, ∀ o, h.get? b = some o → h'.get? b = some o) → St i h'
  has : ∀ i h, St i h → ∀ b ∈ fp, ∃ o, h.get? b = some o
  item : ∀ i (s : Shared) (Q : Value → Shared → Prop) (E : Value → Shared → Prop), i < n → St i s.heap →
    (∀ v h' tk, P i v h' → St (i + 1) h' → (∀ b o, b ∉ wr → s.heap.get? b = some o → h'.get? b = some o) → Q v { s with heap := h', toks := tk }) →
    wpAny (model prog w) A (pyNext (.ref I)) (fun r s₁ => match r with | none => False | some v => wpAny (model prog w) A (letOwnedTupleGo target (.ref I) v) (fun _ s₂ => Q v s₂) E s₁) E s
  done : ∀ (s : Shared) (Q : Shared → Prop) (E : Value → Shared → Prop), St n s.heap →
    (∀ h' tk, (∀ b o, b ∉ wr → s.heap.get? b = some o → h'.get? b = some o) → Q { s with heap := h', toks := tk }) → wpAny (model prog w) A (pyNext (.ref I)) (fun r s₁ => r = none ∧ Q s₁) E s
  self : ∀ i (s : Shared) (Q : Value → Shared → Prop) (E : Value → Shared → Prop), St i s.heap → Q (.ref I) s → wpAny (model prog w) A (pyIter (.ref I)) Q E s

section
variable {prog : Program} {w : World} {A : Around} {E : Value → Shared → Prop} {R : Result → Shared → Prop} {s : Shared} {env : Env}

theorem Src.list (hh : A.handled = none) (target : PySem.Expr) (I ax : Addr) (hne : ax ≠ I) (items : Array Value) :
    Src prog w A target I [I, ax] [I] items.size (fun i v _ => items[i]? = some v) (fun i h => h.IsListIter I ax i ∧ h.IsList ax items) where
  sub := fun b hb => by simp at hb; simp [hb]
  frame := (Walks.list (prog := prog) (w := w) (A := A) hh I ax hne items).frame
  has := fun i h ⟨⟨o, e, _⟩, ⟨o2, e2, _⟩⟩ b hb => by
    simp only [List.mem_cons, List.not_mem_nil, or_false] at hb
    rcases hb with rfl | rfl
    · exact ⟨_, e⟩
    · exact ⟨_, e2⟩
  item := fun i s Q E hi st hQ => (Walks.list (prog := prog) (w := w) (A := A) hh I ax hne items).item i s _ E hi st fun v h' tk p st' k => letGo_listiter st'.1 (hQ v h' tk p st' k)
  done := fun s Q E st hQ => (Walks.list (prog := prog) (w := w) (A := A) hh I ax hne items).done s _ E st fun h' tk k => ⟨rfl, hQ h' tk k⟩
  self := (Walks.list (prog := prog) (w := w) (A := A) hh I ax hne items).self

theorem Src.range (hh : A.handled = none) (x : Str) (px : Pos) (I : Addr) (n : Nat) :
    Src prog w A (.Name x px) I [I] [I] n (fun i v _ => ∃ t, v = .int (i : Int) t) (fun i h => IsRangeIter h I (0 + (i : Nat) * 1) ((n : Int) - (i : Nat)) 1) where
  sub := fun b hb => hb
  frame := (Walks.range (prog := prog) (w := w) (A := A) hh I 0 1 n).frame
  has := fun i h e b hb => by
    rw [List.mem_singleton.mp hb]
    exact ⟨_, e⟩
  item := fun i s Q E hi st hQ => (Walks.range (prog := prog) (w := w) (A := A) hh I 0 1 n).item i s _ E hi st fun v h' tk ⟨t, p⟩ st' k => wpAny_of_eq (show letOwnedTupleGo (.Name x px) (.ref I) v = pure () from rfl) (hQ v h' tk ⟨t, by rw [p]; simp⟩ st' k)
  done := fun s Q E st hQ => (Walks.range (prog := prog) (w := w) (A := A) hh I 0 1 n).done s _ E st fun h' tk k => ⟨rfl, hQ h' tk k⟩
  self := (Walks.range (prog := prog) (w := w) (A := A) hh I 0 1 n).self

/-- the loop over a source, whatever its turn does -/
theorem loop_src {c : Code} {target : PySem.Expr} {I : Addr} {fp wr : List Addr} {n : Nat} {P : Nat → Value → Heap → Prop} {St : Nat → Heap → Prop} (W : Src prog w A target I fp wr n P St)
    (J : Nat → Shared → Prop) (Body : Value → (Shared → Prop) → (Shared → Prop))
    (hloop : ∀ (Inv : Nat → Shared → Prop) (_turn : ∀ k s, Inv k s → wpAny (model prog w) A (pyNext (.ref I)) (fun r s₁ => match r with
        | none => R (.ok .next) s₁
        | some v => wpAny (model prog w) A (letOwnedTupleGo target (.ref I) v) (fun _ s₁' => Body v (fun s₅ => ∃ m, m < k ∧ Inv m s₅) s₁') (notedBy (model prog w) A env fun e s' => R (.error e) s') s₁)
        (notedBy (model prog w) A env fun e s' => R (.error e) s') s) (k : Nat) (_ : Inv k s), codeAny (model prog w) A c R s)
    (stable : ∀ i s h' tk, J i s → (∀ b o, b ∉ wr → s.heap.get? b = some o → h'.get? b = some o) → J i { s with heap := h', toks := tk })
    (bmono : ∀ v s (Q Q' : Shared → Prop), (∀ s, Q s → Q' s) → Body v Q s → Body v Q' s)
    (turn : ∀ i v s, i < n → P i v s.heap → St (i + 1) s.heap → J i s → Body v (fun s' => J (i + 1) s' ∧ ∀ b ∈ fp, ∀ o, s.heap.get? b = some o → s'.heap.get? b = some o) s)
    (done : ∀ s, J n s → R (.ok .next) s) (h0 : J 0 s) (st0 : St 0 s.heap) : codeAny (model prog w) A c R s := by
  refine hloop (fun k s' => ∃ i, i ≤ n ∧ k = n + 1 - i ∧ St i s'.heap ∧ J i s') ?_ (n + 1) ⟨0, Nat.zero_le _, rfl, st0, h0⟩
  rintro k s' ⟨i, hi, rfl, hst, hJ⟩
  by_cases hlt : i < n
  · refine wpAny_mono (W.item i s' (fun v s₂ => Body v (fun s₅ => ∃ m, m < n + 1 - i ∧ ∃ i, i ≤ n ∧ m = n + 1 - i ∧ St i s₅.heap ∧ J i s₅) s₂) _ hlt hst fun v h' tk hp hst' hk => ?_) (fun r s₁ h₁ => ?_) fun _ _ e => e
    · exact bmono _ _ _ _ (fun s₅ ⟨h5, h6⟩ => ⟨n + 1 - (i + 1), by omega, i + 1, hlt, rfl, W.frame _ _ _ hst' h6, h5⟩) (turn i v _ hlt hp hst' (stable i s' h' tk hJ hk))
    · cases r with
      | none => exact h₁.elim
      | some v => exact h₁
  · obtain rfl : i = n := Nat.le_antisymm hi (Nat.not_lt.mp hlt)
    refine wpAny_mono (W.done s' (fun s₁ => R (.ok .next) s₁) _ hst fun h' tk hk => done _ (stable _ s' h' tk hJ hk)) (fun r s₁ h₁ => ?_) fun _ _ e => e
    obtain ⟨rfl, h₁⟩ := h₁
    exact h₁

/-- the tests of a clause -/
def testsOf (ifs : List PySem.Expr) (env : Env) : Sem Bool := forIn ifs true fun c r => if r = true then do let ok ← isTrue c env (eval c env); pure (ForInStep.yield ok) else pure (ForInStep.yield r)

theorem loop_one {elt target iter : PySem.Expr} {ifs : List PySem.Expr} {scope : Scope} {pos : Pos} {it acc : Value} {env : Env} (I : Nat → Shared → Prop)
    (turn : ∀ n s, I n s → wpAny (model prog w) A (pyNext it) (fun r s₁ => match r with
      | none => R (.ok .next) s₁
      | some v => wpAny (model prog w) A (letOwnedTupleGo target it v) (fun _ s₁' => wpAny (model prog w) A (assign target env v) (fun _ s₂ =>
          wpAny (model prog w) A (testsOf ifs env) (fun ok s₃ =>
            if ok = true then wpAny (model prog w) A (eval elt env) (fun x s₄ =>
              wpAny (model prog w) A (call (.builtin "list.append") [acc, x]) (fun _ s₅ => ∃ m, m < n ∧ I m s₅) (notedBy (model prog w) A env fun e s' => R (.error e) s') s₄) (notedBy (model prog w) A env fun e s' => R (.error e) s') s₃
            else ∃ m, m < n ∧ I m s₃) (notedBy (model prog w) A env fun e s' => R (.error e) s') s₂) (notedBy (model prog w) A env fun e s' => R (.error e) s') s₁') (notedBy (model prog w) A env fun e s' => R (.error e) s') s₁) (notedBy (model prog w) A env fun e s' => R (.error e) s') s)
    (n : Nat) (h : I n s) :
    codeAny (model prog w) A (.compLoop (.ListComp elt [⟨target, iter, ifs, 0⟩] scope pos) 0 it acc env) R s := by
  refine codeAny_loop rfl I (fun n s hI => ?_) n h
  show wpAny _ A ((compTurn (.ListComp elt [⟨target, iter, ifs, 0⟩] scope pos) 0 it acc env).onRaise (fun x => do noteFrame x env; theTreesLotGoes x)) _ _ s
  refine wpAny_noted ?_
  rw [compTurn_list]
  refine wpAny_bind (wpAny_standAt (wpAny_bind (wpAny_mono (turn n s hI) (fun r s₁ h₁ => ?_) fun _ _ h' => h')))
  cases r with
  | none => exact wpAny_pure h₁
  | some v =>
    refine wpAny_bind (wpAny_mono h₁ (fun _ s₁' h₁' => ?_) fun _ _ h' => h')
    refine wpAny_bind (wpAny_mono h₁' (fun _ s₂ h₂ => wpAny_bind (wpAny_mono h₂ (fun ok s₃ h₃ => ?_) fun _ _ h' => h')) fun _ _ h' => h')
    cases ok with
    | false => exact wpAny_pure ⟨rfl, h₃⟩
    | true =>
      exact wpAny_bind (wpAny_bind (wpAny_mono h₃ (fun x s₄ h₄ => wpAny_bind (wpAny_mono h₄ (fun _ s₅ h₅ => wpAny_pure (wpAny_pure ⟨rfl, h₅⟩)) fun _ _ h' => h')) fun _ _ h' => h'))

abbrev lst (ys : List Value) : Obj := { cls := .type "list", data := .seq ys.toArray ys.length }

/-- what the loop of a comprehension needs -/
structure CompOk (prog : Program) (w : World) (A : Around) (env : Env) (scope : Scope) (cl : List (Str × Addr)) (target : PySem.Expr) (ifs : List PySem.Expr) (elt : PySem.Expr) (h₀ : Heap) (s₂ : Shared) (wr : List Addr) (n : Nat) (P : Nat → Value → Heap → Prop)
    (J : Addr → Addr → Nat → List Value → Heap → Prop) : Prop where
  start : ∀ C D, J C D 0 [] s₂.heap
  stable : ∀ C D i ys h h', J C D i ys h → (∀ b o, b ≠ C → b ≠ D → b ∉ wr → h.get? b = some o → h'.get? b = some o) → J C D i ys h'
  turn : ∀ C D i v ys m h tk (E' : Value → Shared → Prop), i < n → P i v h → J C D i ys h → Fr h₀ C h m → h₀.get? D = none → C ≠ D → (∃ o, h.get? D = some o) → (∀ b ∈ wr, ∃ o, h.get? b = some o) →
    wpAny (model prog w) A (assign target (compEnvC scope cl C env) v) (fun _ s₃ => wpAny (model prog w) A (testsOf ifs (compEnvC scope cl C env)) (fun ok s₄ =>
      if ok = true then wpAny (model prog w) A (eval elt (compEnvC scope cl C env)) (fun y s₅ => ∃ h' tk' m', s₅ = { s₂ with heap := h', toks := tk' } ∧ J C D (i + 1) (ys ++ [y]) h' ∧ h'.Ns C m' ∧ ∀ b o, b ≠ C → h.get? b = some o → h'.get? b = some o) E' s₄
      else ∃ h' tk' m', s₄ = { s₂ with heap := h', toks := tk' } ∧ J C D (i + 1) ys h' ∧ h'.Ns C m' ∧ ∀ b o, b ≠ C → h.get? b = some o → h'.get? b = some o) E' s₃) E' { s₂ with heap := h, toks := tk }

theorem comp_block {elt iter target : PySem.Expr} {ifs : List PySem.Expr} {scope : Scope} {cl : List (Str × Addr)} {pos : Pos} {s₂ : Shared} {I : Addr} {fp wr : List Addr} {n : Nat} {P : Nat → Value → Heap → Prop} {h₀ : Heap}
    {St : Nat → Heap → Prop} (W : Src prog w A target I fp wr n P St) (hsz : n ≤ 1000) {RR : Value → Addr → Result → Shared → Prop} (J : Addr → Addr → Nat → List Value → Heap → Prop)
    (hcell : ∀ y ∈ scope.names, y.2 ≠ .cell) (hkind : scope.kind = .function) (hst : St 0 s₂.heap) (hfp : ∀ b ∈ fp, b < s₂.heap.objs.size) (h0s : ∀ b o, h₀.get? b = some o → s₂.heap.get? b = some o) (hwr : ∀ b ∈ wr, h₀.get? b = none) (h0z : h₀.objs.size ≤ s₂.heap.objs.size)
    (K : CompOk prog w A env scope cl target ifs elt h₀ s₂ wr n P J)
    (hRR : ∀ D C h' tk m' ys, h₀.get? D = none → h₀.get? C = none → D ≠ C → h'.Ns C m' → h'.get? D = some (lst ys) → ys.length ≤ n → J C D n ys h' → (∀ b o, h₀.get? b = some o → h'.get? b = some o) → RR (.ref D) C (.ok .next) { s₂ with heap := h', toks := tk }) :
    wpAny (model prog w) A (newList []) (fun acc s₃ => wpAny (model prog w) A (newFunctionEnv scope env.globals cl [] env.qual none .none (some env)) (fun cenv s₄ =>
      codeAny (model prog w) A (.compStart (.ListComp elt [⟨target, iter, ifs, 0⟩] scope pos) 0 (.ref I) acc { cenv with scope := relabel scope env }) (RR acc cenv.locals) s₄) E s₃) E s₂ := by
  refine wpAny_newObj_type (wpAny_newFunctionEnv hcell (by intro y hy; simp at hy) (fun h₁ hns₁ hsb₁ => ?_) hkind)
  dsimp only at hns₁ hsb₁ ⊢
  generalize hH2 : s₂.heap.push { cls := .type "list", dict := none, data := .seq ([] : List Value).toArray } = H2 at hns₁ hsb₁ ⊢
  have hC : H2.objs.size = s₂.heap.objs.size + 1 := by rw [← hH2, Heap.size_push]
  have hDC : s₂.heap.objs.size ≠ H2.objs.size := by rw [hC]; exact Nat.ne_of_lt (Nat.lt_succ_self _)
  have below : ∀ b, b < s₂.heap.objs.size → b ≠ H2.objs.size ∧ b ≠ s₂.heap.objs.size := fun b hb => ⟨by rw [hC]; exact Nat.ne_of_lt (Nat.lt_succ_of_lt hb), Nat.ne_of_lt hb⟩
  have old : ∀ b o, s₂.heap.get? b = some o → h₁.get? b = some o := fun b o e => hsb₁.extBut b o (below b (Heap.lt_size e)).1 (Heap.get?_push_of_some _ (hH2 ▸ Heap.get?_push_of_some _ e))
  have hacc : h₁.get? s₂.heap.objs.size = some (lst []) := hsb₁.extBut _ _ hDC (Heap.get?_push_of_some _ (hH2 ▸ Heap.get?_push_size _ rfl))
  have fresh₀ : ∀ a, s₂.heap.objs.size ≤ a → h₀.get? a = none := fun a ha => Heap.get?_none_of_le (Nat.le_trans h0z ha)
  have hD₀ : h₀.get? s₂.heap.objs.size = none := fresh₀ _ (Nat.le_refl _)
  have hC₀ : h₀.get? H2.objs.size = none := fresh₀ _ (by rw [hC]; exact Nat.le_succ _)
  have hCab : h₀.objs.size ≤ H2.objs.size := by rw [hC]; exact Nat.le_trans h0z (Nat.le_succ _)
  have hDf : s₂.heap.objs.size ∉ fp := fun hm => Nat.lt_irrefl _ (hfp _ hm)
  have hCf : H2.objs.size ∉ fp := fun hm => by have := hfp _ hm; rw [hC] at this; exact Nat.lt_irrefl _ (Nat.lt_of_succ_lt this)
  generalize H2.objs.size = C at *
  generalize hDD : s₂.heap.objs.size = D at *
  have hst₁ : St 0 h₁ := W.frame _ _ _ hst fun b _ o e => old b o e
  have loop : codeAny (model prog w) A (.compLoop (.ListComp elt [⟨target, iter, ifs, 0⟩] scope pos) 0 (.ref I) (.ref D) (compEnvC scope cl C env)) (RR (.ref D) C) { s₂ with heap := h₁, toks := s₂.toks + ([] : List (Str × Value)).length } := by
    refine loop_src (env := compEnvC scope cl C env) W
      (fun i s => ∃ h' tk m' ys, s = { s₂ with heap := h', toks := tk } ∧ Fr h₀ C h' m' ∧ h'.get? D = some (lst ys) ∧ ys.length ≤ i ∧ J C D i ys h')
      (fun v Q s₁' => wpAny (model prog w) A (assign target (compEnvC scope cl C env) v) (fun _ s₂ =>
          wpAny (model prog w) A (testsOf ifs (compEnvC scope cl C env)) (fun ok s₃ =>
            if ok = true then wpAny (model prog w) A (eval elt (compEnvC scope cl C env)) (fun x s₄ =>
              wpAny (model prog w) A (call (.builtin "list.append") [.ref D, x]) (fun _ s₅ => Q s₅) (notedBy (model prog w) A (compEnvC scope cl C env) fun e s' => RR (.ref D) C (.error e) s') s₄) (notedBy (model prog w) A (compEnvC scope cl C env) fun e s' => RR (.ref D) C (.error e) s') s₃
            else Q s₃) (notedBy (model prog w) A (compEnvC scope cl C env) fun e s' => RR (.ref D) C (.error e) s') s₂) (notedBy (model prog w) A (compEnvC scope cl C env) fun e s' => RR (.ref D) C (.error e) s') s₁')
      (fun Inv turn k h => loop_one Inv turn k h) ?stable ?bmono ?turn ?done ⟨h₁, _, _, [], rfl, ⟨hns₁, fun b o e => old b o (h0s b o e), hCab⟩, hacc, Nat.zero_le _, K.stable _ _ _ _ _ _ (K.start C D) fun b o _ _ _ e => old b o e⟩ hst₁
    case stable =>
      rintro i s h' tk ⟨h2, tk2, m', ys, rfl, F, eD, hy, hJ⟩ hk
      have hDw : D ∉ wr := fun h => hDf (W.sub _ h)
      have hCw : C ∉ wr := fun h => hCf (W.sub _ h)
      exact ⟨h', tk, m', ys, rfl, ⟨F.ns.at' fun o e => hk C o hCw e, fun b o e => hk b o (fun hm => by rw [hwr b hm] at e; cases e) (F.keep b o e), F.above⟩, hk _ _ hDw eD, hy, K.stable _ _ _ _ _ _ hJ fun b o _ _ nb e => hk b o nb e⟩
    case bmono =>
      intro v s Q Q' hQ hb
      refine wpAny_mono hb (fun _ s₂ h₂ => wpAny_mono h₂ (fun ok s₃ h₃ => ?_) fun _ _ e => e) fun _ _ e => e
      cases ok with
      | false => exact hQ _ h₃
      | true => exact wpAny_mono h₃ (fun x s₄ h₄ => wpAny_mono h₄ (fun _ s₅ h₅ => hQ _ h₅) fun _ _ e => e) fun _ _ e => e
    case turn =>
      rintro i v s hi hp hst' ⟨h2, tk2, m', ys, rfl, F, eD, hy, hJ⟩
      have hwo : ∀ b ∈ wr, ∃ o, h2.get? b = some o := fun b hb => W.has _ _ hst' b (W.sub b hb)
      refine wpAny_mono (K.turn C D i v ys m' h2 tk2 _ hi hp hJ F hD₀ (Ne.symm hDC) ⟨_, eD⟩ hwo) (fun _ s₃ h₃ => wpAny_mono h₃ (fun ok s₄ h₄ => ?_) fun _ _ e => e) fun _ _ e => e
      cases ok with
      | false =>
        obtain ⟨h', tk', m2, rfl, hJ', hn', hk⟩ := h₄
        exact ⟨⟨h', tk', m2, ys, rfl, ⟨hn', fun b o e => hk b o (fun ea => by rw [ea, hC₀] at e; cases e) (F.keep b o e), F.above⟩, hk _ _ hDC eD, Nat.le_succ_of_le hy, hJ'⟩, fun b hb o e => hk b o (fun ea => hCf (by rw [← ea]; exact hb)) e⟩
      | true =>
        refine wpAny_mono h₄ (fun y s₅ h₅ => ?_) fun _ _ e => e
        obtain ⟨h', tk', m2, rfl, hJ', hn', hk⟩ := h₅
        have eD' := hk _ _ hDC eD
        refine append_at (hsz := by show ys.toArray.size ≤ sizeLine; rw [List.size_toArray, sizeLine_eq]; omega) eD' fun h₅ hs₅ hD₅ => ?_
        refine ⟨⟨h₅, tk', m2, ys ++ [y], rfl, ⟨hn'.sameBut hs₅ (Ne.symm hDC), fun b o e => hs₅.extBut b o (fun ea => by rw [ea, hD₀] at e; cases e) (hk b o (fun ea => by rw [ea, hC₀] at e; cases e) (F.keep b o e)), F.above⟩, ?_, by rw [List.length_append, List.length_singleton]; exact Nat.succ_le_succ hy,
          K.stable _ _ _ _ _ _ hJ' fun b o _ nb _ e => hs₅.extBut b o nb e⟩, fun b hb o e => hs₅.extBut b o (fun ea => hDf (by rw [← ea]; exact hb)) (hk b o (fun ea => hCf (by rw [← ea]; exact hb)) e)⟩
        rw [hD₅]
        simp
    case done =>
      rintro s ⟨h2, tk2, m', ys, rfl, F, eD, hy, hJ⟩
      exact hRR D C h2 tk2 m' ys hD₀ hC₀ hDC F.ns eD hy hJ F.keep
  exact codeAny_compStart_list loop (W.self 0 _ _ _ hst₁ loop)
end
end Mine
end

section
open PySem PySem.W PySem.Calls PyProof.Rows
namespace Mine
set_option maxRecDepth 100000
set_option maxHeartbeats 1000000

section
variable {prog : Program} {w : World} {A : Around} {E : Value → Shared → Prop} {s : Shared} {env : Env}

/-- all that a comprehension needs once its iterator stands -/
def CompAt (prog : Program) (w : World) (A : Around) (env : Env) (scope : Scope) (cl : List (Str × Addr)) (target : PySem.Expr) (ifs : List PySem.Expr) (elt : PySem.Expr) (h₀ : Heap)
    (Fin : Addr → Addr → List Value → Heap → Nat → Shared → Prop) (it : Value) (s₂ : Shared) : Prop :=
  ∃ I fp wr n P St J, it = .ref I ∧ Src prog w A target I fp wr n P St ∧ n ≤ 1000 ∧ St 0 s₂.heap ∧ (∀ b ∈ fp, b < s₂.heap.objs.size) ∧ (∀ b o, h₀.get? b = some o → s₂.heap.get? b = some o) ∧ (∀ b ∈ wr, h₀.get? b = none) ∧ h₀.objs.size ≤ s₂.heap.objs.size ∧
    CompOk prog w A env scope cl target ifs elt h₀ s₂ wr n P J ∧
    (∀ C D h' tk ys, h₀.get? D = none → h₀.get? C = none → D ≠ C → (∃ m, h'.Ns C m) → h'.get? D = some (lst ys) → ys.length ≤ n → J C D n ys h' → (∀ b o, h₀.get? b = some o → h'.get? b = some o) → Fin C D ys h' tk s₂)

theorem x_comp {elt iter target : PySem.Expr} {ifs : List PySem.Expr} {scope : Scope} {cl : List (Str × Addr)} {pos : Pos} {Q : Value → Shared → Prop} {h₀ : Heap}
    (hclos : closureFor scope env = pure cl) (hcell : ∀ y ∈ scope.names, y.2 ≠ .cell) (hkind : scope.kind = .function)
    (hnames : ∀ y ∈ scope.names, y.2 = .local → scope.names.lookup y.1 = some .local) (hs : ∀ x, foldedSetIterable iter env x = pure x)
    (h : wpAny (model prog w) A (eval iter env) (fun xv s₁ => wpAny (model prog w) A (pyIter xv) (fun it s₂ => CompAt prog w A env scope cl target ifs elt h₀
      (fun C D ys h' tk s₂ => ∀ h'', (∀ b o, b ≠ C → h'.get? b = some o → h''.get? b = some o) → h''.get? D = some (lst ys) → (∀ b o, h₀.get? b = some o → h''.get? b = some o) → Q (.ref D) { s₂ with heap := h'', toks := tk }) it s₂) E s₁) E s) :
    wpAny (model prog w) A (eval (.ListComp elt [⟨target, iter, ifs, 0⟩] scope pos) env) Q E s := by
  rw [eval_ListComp]
  refine wpAny_comprehension_free (use := none) rfl hs hclos hkind hnames (wpAny_mono h (fun xv s₁ h₁ => wpAny_mono h₁ (fun it s₂ h₂ => ?_) fun _ _ e => e) fun _ _ e => e)
  obtain ⟨I, fp, wr, n, P, St, J, rfl, W, hsz, hst, hfp, h0s, hwr, h0z, K, fin⟩ := h₂
  refine comp_block (RR := fun acc C => compPost (model prog w) A E none Q acc C) W hsz J hcell hkind hst hfp h0s hwr h0z K ?_
  intro D C h' tk m' ys hD hC hDC hn hl hy hJ hk
  exact ⟨m', hn, fun h'' hs'' => fin C D h' tk ys hD hC hDC ⟨m', hn⟩ hl hy hJ hk h'' (fun b o nb e => hs''.extBut b o nb e) (hs''.extBut D _ hDC hl) fun b o e => hs''.extBut b o (by rintro rfl; rw [hC] at e; cases e) (hk b o e)⟩

theorem x_assign_comp {elt iter target : PySem.Expr} {ifs : List PySem.Expr} {scope : Scope} {cl : List (Str × Addr)} {pos spos py : Pos} {y : Str} {Q : Flow → Shared → Prop} {h₀ : Heap}
    (hsw : swapsWith (.ListComp elt [⟨target, iter, ifs, 0⟩] scope pos) (some (.Name y py)) spos.line env = pure true)
    (hclos : closureFor scope env = pure cl) (hcell : ∀ y ∈ scope.names, y.2 ≠ .cell) (hkind : scope.kind = .function)
    (hnames : ∀ y ∈ scope.names, y.2 = .local → scope.names.lookup y.1 = some .local) (hs : ∀ x, foldedSetIterable iter env x = pure x)
    (h : wpAny (model prog w) A (eval iter env) (fun xv s₁ => wpAny (model prog w) A (pyIter xv) (fun it s₂ => CompAt prog w A env scope cl target ifs elt h₀
      (fun C D ys h' tk s₂ => wpAny (model prog w) A (storeName env y (.ref D)) (fun _ s₃ => (∃ m, s₃.heap.Ns C m) ∧ ∀ h'', (∀ b o, b ≠ C → s₃.heap.get? b = some o → h''.get? b = some o) → Q .next { s₃ with heap := h'' }) E { s₂ with heap := h', toks := tk }) it s₂) E s₁) E s) :
    wpAny (model prog w) A (exec (.Assign [.Name y py] (.ListComp elt [⟨target, iter, ifs, 0⟩] scope pos) spos) env) Q E s := by
  rw [exec_Assign_Name_used _ _ _ _ hsw]
  refine wpAny_bind (wpAny_standAt (wpAny_bind ?_))
  show wpAny _ A (do let _ ← comprehension (.ListComp elt [⟨target, iter, ifs, 0⟩] scope pos) scope env _ (newList []) false (eval iter env) (some (assign (.Name y py) env))) _ _ s
  refine wpAny_bind (wpAny_mono (wpAny_comprehension_free (use := some (assign (.Name y py) env)) (Q := fun _ s' => Q .next s') rfl hs hclos hkind hnames
    (wpAny_mono h (fun xv s₁ h₁ => wpAny_mono h₁ (fun it s₂ h₂ => ?_) fun _ _ e => e) fun _ _ e => e)) (fun _ s' hq => wpAny_pure (wpAny_pure hq)) fun _ _ e => e)
  obtain ⟨I, fp, wr, n, P, St, J, rfl, W, hsz, hst, hfp, h0s, hwr, h0z, K, fin⟩ := h₂
  refine comp_block (RR := fun acc C => compPost (model prog w) A E (some (assign (.Name y py) env)) (fun _ s' => Q .next s') acc C) W hsz J hcell hkind hst hfp h0s hwr h0z K ?_
  intro D C h' tk m' ys hD hC hDC hn hl hy hJ hk
  show wpAny _ A (assign (.Name y py) env (.ref D)) _ _ _
  refine wpAny_assign_Name (wpAny_mono (fin C D h' tk ys hD hC hDC ⟨m', hn⟩ hl hy hJ hk) (fun _ s₃ h₃ => ?_) fun _ _ e => e)
  obtain ⟨⟨m2, hn2⟩, h₄⟩ := h₃
  exact ⟨m2, hn2, fun h'' hs'' => h₄ h'' fun b o nb e => hs''.extBut b o nb e⟩

/-- a store into a local name, with what stays -/
theorem store_keeps {x : Str} {v : Value} {c₀ : Heap} {m : Str → Option Value} {Q : Unit → Shared → Prop} (F : Fr c₀ env.locals s.heap m) (hx : env.kindOf x = some .local) (hp : (env.scope.kind == .class || (env.scope.kind == .module && env.locals != env.globals)) = false)
    (q : ∀ h' tk', Fr c₀ env.locals h' (fun z => if z = x then some v else m z) → (∀ b o, b ≠ env.locals → s.heap.get? b = some o → h'.get? b = some o) → Q () { s with heap := h', toks := tk' }) :
    wpAny (model prog w) A (storeName env x v) Q E s :=
  wpAny_storeName_local hx F.ns (fun h' hn hs => q h' _ (F.set hn hs) fun b o nb e => (hs.2 b nb).trans e) hp
end
end Mine
end

section
open PySem PySem.W PySem.Calls PyProof.Rows
namespace Mine
set_option maxRecDepth 100000
set_option maxHeartbeats 1000000

section
variable {prog : Program} {w : World} {A : Around} {E : Value → Shared → Prop} {R : Result → Shared → Prop} {s : Shared} {env : Env}
variable {elt t0 i0 t1 i1 : PySem.Expr} {ifs0 ifs1 : List PySem.Expr} {scope : Scope} {pos : Pos} {it acc : Value}

theorem compTurn_two0 : compTurn (.ListComp elt [⟨t0, i0, ifs0, 0⟩, ⟨t1, i1, ifs1, 0⟩] scope pos) 0 it acc env = (do
      standAt i0.pos
      match ← pyNext it with
      | none => pure (.done .next)
      | some v =>
        letOwnedTupleGo t0 it v
        assign t0 env v
        let mut ok := true
        for c in ifs0 do
          if ok then ok ← isTrue c env (eval c env)
        if ok then
          let x ← eval i1 env
          standAt i1.pos
          let x ← foldedSetIterable i1 env x
          let _ ← runOwn (.compStart (.ListComp elt [⟨t0, i0, ifs0, 0⟩, ⟨t1, i1, ifs1, 0⟩] scope pos) 1 (← holding [x] (pyIter x)) acc env) env
        again (.compLoop (.ListComp elt [⟨t0, i0, ifs0, 0⟩, ⟨t1, i1, ifs1, 0⟩] scope pos) 0 it acc env)) := by rfl
theorem compTurn_two1 : compTurn (.ListComp elt [⟨t0, i0, ifs0, 0⟩, ⟨t1, i1, ifs1, 0⟩] scope pos) 1 it acc env = (do
      standAt i1.pos
      match ← pyNext it with
      | none => pure (.done .next)
      | some v =>
        letOwnedTupleGo t1 it v
        assign t1 env v
        let mut ok := true
        for c in ifs1 do
          if ok then ok ← isTrue c env (eval c env)
        if ok then
          (do let _ ← call (.builtin "list.append") [acc, ← eval elt env])
        again (.compLoop (.ListComp elt [⟨t0, i0, ifs0, 0⟩, ⟨t1, i1, ifs1, 0⟩] scope pos) 1 it acc env)) := by rfl

theorem loop_inner (I : Nat → Shared → Prop)
    (turn : ∀ n s, I n s → wpAny (model prog w) A (pyNext it) (fun r s₁ => match r with
      | none => R (.ok .next) s₁
      | some v => wpAny (model prog w) A (letOwnedTupleGo t1 it v) (fun _ s₁' => wpAny (model prog w) A (assign t1 env v) (fun _ s₂ =>
          wpAny (model prog w) A (testsOf ifs1 env) (fun ok s₃ =>
            if ok = true then wpAny (model prog w) A (eval elt env) (fun x s₄ =>
              wpAny (model prog w) A (call (.builtin "list.append") [acc, x]) (fun _ s₅ => ∃ m, m < n ∧ I m s₅) (notedBy (model prog w) A env fun e s' => R (.error e) s') s₄) (notedBy (model prog w) A env fun e s' => R (.error e) s') s₃
            else ∃ m, m < n ∧ I m s₃) (notedBy (model prog w) A env fun e s' => R (.error e) s') s₂) (notedBy (model prog w) A env fun e s' => R (.error e) s') s₁') (notedBy (model prog w) A env fun e s' => R (.error e) s') s₁) (notedBy (model prog w) A env fun e s' => R (.error e) s') s)
    (n : Nat) (h : I n s) :
    codeAny (model prog w) A (.compLoop (.ListComp elt [⟨t0, i0, ifs0, 0⟩, ⟨t1, i1, ifs1, 0⟩] scope pos) 1 it acc env) R s := by
  refine codeAny_loop rfl I (fun n s hI => ?_) n h
  show wpAny _ A ((compTurn (.ListComp elt [⟨t0, i0, ifs0, 0⟩, ⟨t1, i1, ifs1, 0⟩] scope pos) 1 it acc env).onRaise (fun x => do noteFrame x env; theTreesLotGoes x)) _ _ s
  refine wpAny_noted ?_
  rw [compTurn_two1]
  refine wpAny_bind (wpAny_standAt (wpAny_bind (wpAny_mono (turn n s hI) (fun r s₁ h₁ => ?_) fun _ _ h' => h')))
  cases r with
  | none => exact wpAny_pure h₁
  | some v =>
    refine wpAny_bind (wpAny_mono h₁ (fun _ s₁' h₁' => ?_) fun _ _ h' => h')
    refine wpAny_bind (wpAny_mono h₁' (fun _ s₂ h₂ => wpAny_bind (wpAny_mono h₂ (fun ok s₃ h₃ => ?_) fun _ _ h' => h')) fun _ _ h' => h')
    cases ok with
    | false => exact wpAny_pure ⟨rfl, h₃⟩
    | true =>
      exact wpAny_bind (wpAny_bind (wpAny_mono h₃ (fun x s₄ h₄ => wpAny_bind (wpAny_mono h₄ (fun _ s₅ h₅ => wpAny_pure (wpAny_pure ⟨rfl, h₅⟩)) fun _ _ h' => h')) fun _ _ h' => h'))

theorem loop_outer (hs : ∀ x, foldedSetIterable i1 env x = pure x) (I : Nat → Shared → Prop)
    (turn : ∀ n s, I n s → wpAny (model prog w) A (pyNext it) (fun r s₁ => match r with
      | none => R (.ok .next) s₁
      | some v => wpAny (model prog w) A (letOwnedTupleGo t0 it v) (fun _ s₁' => wpAny (model prog w) A (assign t0 env v) (fun _ s₂ =>
          wpAny (model prog w) A (testsOf ifs0 env) (fun ok s₃ =>
            if ok = true then wpAny (model prog w) A (eval i1 env) (fun x s₄ => wpAny (model prog w) A (pyIter x) (fun it' s₅ =>
              codeAny (model prog w) A (.compStart (.ListComp elt [⟨t0, i0, ifs0, 0⟩, ⟨t1, i1, ifs1, 0⟩] scope pos) 1 it' acc env) (fun r s' => match r with | .ok _ => ∃ m, m < n ∧ I m s' | .error e => cameBackBy (model prog w) A env (notedBy (model prog w) A env fun e s' => R (.error e) s') e s') s₅)
               (notedBy (model prog w) A env fun e s' => R (.error e) s') s₄) (notedBy (model prog w) A env fun e s' => R (.error e) s') s₃
            else ∃ m, m < n ∧ I m s₃) (notedBy (model prog w) A env fun e s' => R (.error e) s') s₂) (notedBy (model prog w) A env fun e s' => R (.error e) s') s₁') (notedBy (model prog w) A env fun e s' => R (.error e) s') s₁) (notedBy (model prog w) A env fun e s' => R (.error e) s') s)
    (n : Nat) (h : I n s) :
    codeAny (model prog w) A (.compLoop (.ListComp elt [⟨t0, i0, ifs0, 0⟩, ⟨t1, i1, ifs1, 0⟩] scope pos) 0 it acc env) R s := by
  refine codeAny_loop rfl I (fun n s hI => ?_) n h
  show wpAny _ A ((compTurn (.ListComp elt [⟨t0, i0, ifs0, 0⟩, ⟨t1, i1, ifs1, 0⟩] scope pos) 0 it acc env).onRaise (fun x => do noteFrame x env; theTreesLotGoes x)) _ _ s
  refine wpAny_noted ?_
  rw [compTurn_two0]
  refine wpAny_bind (wpAny_standAt (wpAny_bind (wpAny_mono (turn n s hI) (fun r s₁ h₁ => ?_) fun _ _ h' => h')))
  cases r with
  | none => exact wpAny_pure h₁
  | some v =>
    refine wpAny_bind (wpAny_mono h₁ (fun _ s₁' h₁' => ?_) fun _ _ h' => h')
    refine wpAny_bind (wpAny_mono h₁' (fun _ s₂ h₂ => wpAny_bind (wpAny_mono h₂ (fun ok s₃ h₃ => ?_) fun _ _ h' => h')) fun _ _ h' => h')
    cases ok with
    | false => exact wpAny_pure ⟨rfl, h₃⟩
    | true =>
      refine wpAny_bind (wpAny_mono h₃ (fun x s₄ h₄ => ?_) fun _ _ h' => h')
      refine wpAny_bind (wpAny_standAt (wpAny_bind (wpAny_of_eq (hs x) ?_)))
      refine wpAny_bind (wpAny_holding (wpAny_mono h₄ (fun it' s₅ h₅ => ?_) fun _ _ h' => h'))
      refine wpAny_bind (wpAny_runOwn (codeAny_mono h₅ fun r s' hr => ?_))
      cases r with
      | error e => exact hr
      | ok f => exact wpAny_pure ⟨rfl, hr⟩

theorem start_inner
    (h0 : codeAny (model prog w) A (.compLoop (.ListComp elt [⟨t0, i0, ifs0, 0⟩, ⟨t1, i1, ifs1, 0⟩] scope pos) 1 it acc env) R s)
    (h : wpAny (model prog w) A (pyIter it) (fun it' s' => codeAny (model prog w) A (.compLoop (.ListComp elt [⟨t0, i0, ifs0, 0⟩, ⟨t1, i1, ifs1, 0⟩] scope pos) 1 it' acc env) R s')
      (notedBy (model prog w) A env fun x s' => R (.error x) s') s) :
    codeAny (model prog w) A (.compStart (.ListComp elt [⟨t0, i0, ifs0, 0⟩, ⟨t1, i1, ifs1, 0⟩] scope pos) 1 it acc env) R s := by
  refine codeAny_of_tree ?_
  show wpAny _ _ ((compStart (.ListComp elt [⟨t0, i0, ifs0, 0⟩, ⟨t1, i1, ifs1, 0⟩] scope pos) 1 it acc env).onRaise (fun x => do noteFrame x env; standAt theWindowsPlace)) _ _ s
  refine wpAny_notedAt ?_
  unfold compStart
  show wpAny _ _ (ask >>= _) _ _ s
  refine wpAny_bind (wpAny_askSetting (wpAny_ite ?_))
  split
  · exact wpAny_pure ⟨rfl, h0⟩
  · refine wpAny_bind (wpAny_rule ?_)
    show wpAny _ _ (standAt i1.pos >>= _) _ _ s
    exact wpAny_bind (wpAny_standAt (wpAny_bind (wpAny_mono h (fun it' s' h' => wpAny_pure ⟨rfl, h'⟩) fun _ _ e => e)))
end
end Mine
end

section
open PySem PySem.W PySem.Calls PyProof.Rows
namespace Mine
set_option maxRecDepth 100000
set_option maxHeartbeats 1000000

section
variable {prog : Program} {w : World} {A : Around} {E : Value → Shared → Prop} {s : Shared} {env : Env}

abbrev cellEnv (x : Str) (scope : Scope) (cl : List (Str × Addr)) (C : Addr) (env : Env) : Env :=
  { scope := relabel scope env, locals := C, globals := env.globals, cells := (x, C + 1) :: cl, qual := env.qual, func := none, code := env.code, frame := env.frame, builtins := env.builtins }

theorem new_env_cell {M : Model} {x : Str} {scope : Scope} {globals : Addr} {cl : List (Str × Addr)} {qual : Str} {Q : Env → Shared → Prop} (hcs : ∀ n, cellsFrom n scope.names cl = (x, n) :: cl) (hps : ∀ h, pushCells h scope.names = h.push { cls := .type "cell", data := .cell none })
    (hQ : ∀ h' C, C = s.heap.objs.size → (∀ b o, s.heap.get? b = some o → h'.get? b = some o) → h'.Ns C (fun _ => none) → h'.IsCell (C + 1) none → h'.objs.size = s.heap.objs.size + 2 →
      Q { scope := scope, locals := C, globals := globals, cells := (x, C + 1) :: cl, qual := qual, func := none, code := env.code, frame := env.frame, builtins := env.builtins } { s with heap := h' }) :
    wpAny M A (newFunctionEnv scope globals cl [] qual none .none (some env)) Q E s := by
  simp only [newFunctionEnv, Option.isSome_some, if_true]
  refine wpAny_bind (wpAny_alloc ?_)
  refine wpAny_bind (wpAny_layCells _ (fun name kind cells => by cases hkc : kind == NameKind.cell <;> simp) _ _ _ _ ?_)
  rw [show ({ s with heap := s.heap.push { cls := .type "dict", data := .dict #[] } } : Shared).heap.objs.size = s.heap.objs.size + 1 from Heap.size_push ..]
  rw [hcs, hps]
  refine wpAny_bind (wpAny_pure (wpAny_pure ?_))
  have hcell : ((s.heap.push { cls := .type "dict", data := .dict #[] }).push { cls := .type "cell", data := .cell none }).IsCell (s.heap.objs.size + 1) none := by
    refine ⟨{ cls := .type "cell", data := .cell none }, ?_, rfl⟩
    rw [show s.heap.objs.size + 1 = (s.heap.push { cls := .type "dict", data := .dict #[] }).objs.size from (Heap.size_push ..).symm]
    exact Heap.get?_push_size _ rfl
  exact hQ _ s.heap.objs.size rfl (fun b o e => Heap.get?_push_of_some _ (Heap.get?_push_of_some _ e)) ((Heap.Ns.new s.heap (.type "dict")).keeps fun b o e => Heap.get?_push_of_some _ e) hcell (by rw [Heap.size_push, Heap.size_push])

structure CompOkC (prog : Program) (w : World) (A : Around) (env : Env) (scope : Scope) (cl : List (Str × Addr)) (x : Str) (elt : PySem.Expr) (h₀ : Heap) (s₂ : Shared) (wr : List Addr) (n : Nat) (P : Nat → Value → Heap → Prop)
    (J : Addr → Addr → Nat → List Value → Heap → Prop) : Prop where
  start : ∀ C D, J C D 0 [] s₂.heap
  stable : ∀ C D i ys h h', J C D i ys h → (∀ b o, b ≠ C → b ≠ C + 1 → b ≠ D → b ∉ wr → h.get? b = some o → h'.get? b = some o) → J C D i ys h'
  turn : ∀ C D i v ys vc h tk (E' : Value → Shared → Prop), i < n → P i v h → J C D i ys h → (∀ b o, h₀.get? b = some o → h.get? b = some o) → h.IsCell (C + 1) vc → h₀.get? (C + 1) = none → (∃ o, h.get? C = some o) → (∃ o, h.get? D = some o) → (∀ b ∈ wr, ∃ o, h.get? b = some o) →
    wpAny (model prog w) A (storeName (cellEnv x scope cl C env) x v) (fun _ s₃ =>
      wpAny (model prog w) A (eval elt (cellEnv x scope cl C env)) (fun y s₅ => ∃ h' tk' vc', s₅ = { s₂ with heap := h', toks := tk' } ∧ J C D (i + 1) (ys ++ [y]) h' ∧ h'.IsCell (C + 1) vc' ∧ ∀ b o, b ≠ C + 1 → h.get? b = some o → h'.get? b = some o) E' s₃) E' { s₂ with heap := h, toks := tk }

theorem comp_blockC {elt iter : PySem.Expr} {x : Str} {px : Pos} {scope : Scope} {cl : List (Str × Addr)} {pos : Pos} {s₂ : Shared} {I : Addr} {fp wr : List Addr} {n : Nat} {P : Nat → Value → Heap → Prop} {h₀ : Heap}
    {St : Nat → Heap → Prop} (W : Src prog w A (.Name x px) I fp wr n P St) (hsz : n ≤ 1000) {RR : Value → Addr → Result → Shared → Prop} (J : Addr → Addr → Nat → List Value → Heap → Prop)
    (hcs : ∀ n, cellsFrom n scope.names cl = (x, n) :: cl) (hps : ∀ h, pushCells h scope.names = h.push { cls := .type "cell", data := .cell none }) (hst : St 0 s₂.heap) (hfp : ∀ b ∈ fp, b < s₂.heap.objs.size) (h0s : ∀ b o, h₀.get? b = some o → s₂.heap.get? b = some o) (hwr : ∀ b ∈ wr, h₀.get? b = none) (h0z : h₀.objs.size ≤ s₂.heap.objs.size)
    (K : CompOkC prog w A env scope cl x elt h₀ s₂ wr n P J)
    (hRR : ∀ D C h' tk m' ys, h₀.get? D = none → h₀.get? C = none → D ≠ C → h'.Ns C m' → h'.get? D = some (lst ys) → ys.length ≤ n → J C D n ys h' → (∀ b o, h₀.get? b = some o → h'.get? b = some o) → RR (.ref D) C (.ok .next) { s₂ with heap := h', toks := tk }) :
    wpAny (model prog w) A (newList []) (fun acc s₃ => wpAny (model prog w) A (newFunctionEnv scope env.globals cl [] env.qual none .none (some env)) (fun cenv s₄ =>
      codeAny (model prog w) A (.compStart (.ListComp elt [⟨.Name x px, iter, [], 0⟩] scope pos) 0 (.ref I) acc { cenv with scope := relabel scope env }) (RR acc cenv.locals) s₄) E s₃) E s₂ := by
  refine wpAny_newObj_type (new_env_cell hcs hps fun h₁ C hCe kp₁ hns₁ hc₁ _ => ?_)
  dsimp only at kp₁ ⊢
  rw [Heap.size_push] at hCe
  have hDC : s₂.heap.objs.size ≠ C := by rw [hCe]; exact Nat.ne_of_lt (Nat.lt_succ_self _)
  have hDc : s₂.heap.objs.size ≠ C + 1 := by rw [hCe]; exact Nat.ne_of_lt (Nat.lt_succ_of_lt (Nat.lt_succ_self _))
  have hCc : C ≠ C + 1 := Nat.ne_of_lt (Nat.lt_succ_self _)
  have old : ∀ b o, s₂.heap.get? b = some o → h₁.get? b = some o := fun b o e => kp₁ b o (Heap.get?_push_of_some _ e)
  have hacc : h₁.get? s₂.heap.objs.size = some (lst []) := kp₁ _ _ (Heap.get?_push_size _ rfl)
  have fresh₀ : ∀ a, s₂.heap.objs.size ≤ a → h₀.get? a = none := fun a ha => Heap.get?_none_of_le (Nat.le_trans h0z ha)
  have hD₀ : h₀.get? s₂.heap.objs.size = none := fresh₀ _ (Nat.le_refl _)
  have hC₀ : h₀.get? C = none := fresh₀ _ (by rw [hCe]; exact Nat.le_succ _)
  have hc₀ : h₀.get? (C + 1) = none := fresh₀ _ (by rw [hCe]; exact Nat.le_succ_of_le (Nat.le_succ _))
  have hDf : s₂.heap.objs.size ∉ fp := fun hm => Nat.lt_irrefl _ (hfp _ hm)
  have hCf : C ∉ fp := fun hm => by have := hfp _ hm; rw [hCe] at this; exact Nat.lt_irrefl _ (Nat.lt_of_succ_lt this)
  have hcf : C + 1 ∉ fp := fun hm => by have := hfp _ hm; rw [hCe] at this; exact Nat.lt_irrefl _ (Nat.lt_of_succ_lt (Nat.lt_of_succ_lt this))
  generalize hDD : s₂.heap.objs.size = D at *
  have hst₁ : St 0 h₁ := W.frame _ _ _ hst fun b _ o e => old b o e
  have loop : codeAny (model prog w) A (.compLoop (.ListComp elt [⟨.Name x px, iter, [], 0⟩] scope pos) 0 (.ref I) (.ref D) (cellEnv x scope cl C env)) (RR (.ref D) C) { s₂ with heap := h₁ } := by
    refine loop_src (env := cellEnv x scope cl C env) W
      (fun i s => ∃ h' tk m' vc ys, s = { s₂ with heap := h', toks := tk } ∧ h'.Ns C m' ∧ h'.IsCell (C + 1) vc ∧ (∀ b o, h₀.get? b = some o → h'.get? b = some o) ∧ h'.get? D = some (lst ys) ∧ ys.length ≤ i ∧ J C D i ys h')
      (fun v Q s₁' => wpAny (model prog w) A (assign (.Name x px) (cellEnv x scope cl C env) v) (fun _ s₂ =>
          wpAny (model prog w) A (testsOf [] (cellEnv x scope cl C env)) (fun ok s₃ =>
            if ok = true then wpAny (model prog w) A (eval elt (cellEnv x scope cl C env)) (fun x s₄ =>
              wpAny (model prog w) A (call (.builtin "list.append") [.ref D, x]) (fun _ s₅ => Q s₅) (notedBy (model prog w) A (cellEnv ‹Str› scope cl C env) fun e s' => RR (.ref D) C (.error e) s') s₄) (notedBy (model prog w) A (cellEnv x scope cl C env) fun e s' => RR (.ref D) C (.error e) s') s₃
            else Q s₃) (notedBy (model prog w) A (cellEnv x scope cl C env) fun e s' => RR (.ref D) C (.error e) s') s₂) (notedBy (model prog w) A (cellEnv x scope cl C env) fun e s' => RR (.ref D) C (.error e) s') s₁')
      (fun Inv turn k h => loop_one Inv turn k h) ?stable ?bmono ?turn ?done ⟨h₁, _, _, _, [], rfl, hns₁, hc₁, fun b o e => old b o (h0s b o e), hacc, Nat.zero_le _, K.stable _ _ _ _ _ _ (K.start C D) fun b o _ _ _ _ e => old b o e⟩ hst₁
    case stable =>
      rintro i s h' tk ⟨h2, tk2, m', vc, ys, rfl, hn, hc, hk0, eD, hy, hJ⟩ hk
      have hDw : D ∉ wr := fun h => hDf (W.sub _ h)
      have hCw : C ∉ wr := fun h => hCf (W.sub _ h)
      have hcw : C + 1 ∉ wr := fun h => hcf (W.sub _ h)
      obtain ⟨oc, ec, hcd⟩ := hc
      exact ⟨h', tk, m', vc, ys, rfl, hn.at' fun o e => hk C o hCw e, ⟨oc, hk _ _ hcw ec, hcd⟩, fun b o e => hk b o (fun hm => by rw [hwr b hm] at e; cases e) (hk0 b o e), hk _ _ hDw eD, hy, K.stable _ _ _ _ _ _ hJ fun b o _ _ _ nb e => hk b o nb e⟩
    case bmono =>
      intro v s Q Q' hQ hb
      refine wpAny_mono hb (fun _ s₂ h₂ => wpAny_mono h₂ (fun ok s₃ h₃ => ?_) fun _ _ e => e) fun _ _ e => e
      cases ok with
      | false => exact hQ _ h₃
      | true => exact wpAny_mono h₃ (fun x s₄ h₄ => wpAny_mono h₄ (fun _ s₅ h₅ => hQ _ h₅) fun _ _ e => e) fun _ _ e => e
    case turn =>
      rintro i v s hi hp hst' ⟨h2, tk2, m', vc, ys, rfl, hn, hc, hk0, eD, hy, hJ⟩
      have hwo : ∀ b ∈ wr, ∃ o, h2.get? b = some o := fun b hb => W.has _ _ hst' b (W.sub b hb)
      refine wpAny_assign_Name (wpAny_mono (K.turn C D i v ys vc h2 tk2 _ hi hp hJ hk0 hc hc₀ (let ⟨o, _, _, e, _⟩ := hn; ⟨o, e⟩) ⟨_, eD⟩ hwo) (fun _ s₃ h₃ => ?_) fun _ _ e => e)
      refine wpAny_tests_nil ?_
      rw [if_pos rfl]
      refine wpAny_mono h₃ (fun y s₅ h₅ => ?_) fun _ _ e => e
      obtain ⟨h', tk', vc', rfl, hJ', hc', hk⟩ := h₅
      have eD' := hk _ _ hDc eD
      refine append_at (hsz := by show ys.toArray.size ≤ sizeLine; rw [List.size_toArray, sizeLine_eq]; omega) eD' fun h₅ hs₅ hD₅ => ?_
      obtain ⟨oc, ec, hcd⟩ := hc'
      refine ⟨⟨h₅, tk', m', vc', ys ++ [y], rfl, (hn.at' fun o e => hk C o hCc e).sameBut hs₅ (Ne.symm hDC), ⟨oc, hs₅.extBut _ _ (Ne.symm hDc) ec, hcd⟩, fun b o e => hs₅.extBut b o (fun ea => by rw [ea, hD₀] at e; cases e) (hk b o (fun ea => by rw [ea, hc₀] at e; cases e) (hk0 b o e)), ?_, by rw [List.length_append, List.length_singleton]; exact Nat.succ_le_succ hy,
        K.stable _ _ _ _ _ _ hJ' fun b o _ _ nb _ e => hs₅.extBut b o nb e⟩, fun b hb o e => hs₅.extBut b o (fun ea => hDf (by rw [← ea]; exact hb)) (hk b o (fun ea => hcf (by rw [← ea]; exact hb)) e)⟩
      rw [hD₅]
      simp
    case done =>
      rintro s ⟨h2, tk2, m', vc, ys, rfl, hn, hc, hk0, eD, hy, hJ⟩
      exact hRR D C h2 tk2 m' ys hD₀ hC₀ hDC hn eD hy hJ hk0
  exact codeAny_compStart_list loop (W.self 0 _ _ _ hst₁ loop)

def CompAtC (prog : Program) (w : World) (A : Around) (env : Env) (scope : Scope) (cl : List (Str × Addr)) (x : Str) (px : Pos) (elt : PySem.Expr) (h₀ : Heap)
    (Fin : Addr → Addr → List Value → Heap → Nat → Shared → Prop) (it : Value) (s₂ : Shared) : Prop :=
  ∃ I fp wr n P St J, it = .ref I ∧ Src prog w A (.Name x px) I fp wr n P St ∧ n ≤ 1000 ∧ St 0 s₂.heap ∧ (∀ b ∈ fp, b < s₂.heap.objs.size) ∧ (∀ b o, h₀.get? b = some o → s₂.heap.get? b = some o) ∧ (∀ b ∈ wr, h₀.get? b = none) ∧ h₀.objs.size ≤ s₂.heap.objs.size ∧
    CompOkC prog w A env scope cl x elt h₀ s₂ wr n P J ∧
    (∀ C D h' tk ys, h₀.get? D = none → h₀.get? C = none → D ≠ C → (∃ m, h'.Ns C m) → h'.get? D = some (lst ys) → ys.length ≤ n → J C D n ys h' → (∀ b o, h₀.get? b = some o → h'.get? b = some o) → Fin C D ys h' tk s₂)

theorem x_compC {elt iter : PySem.Expr} {x : Str} {px : Pos} {scope : Scope} {cl : List (Str × Addr)} {pos : Pos} {Q : Value → Shared → Prop} {h₀ : Heap}
    (hclos : closureFor scope env = pure cl) (hcs : ∀ n, cellsFrom n scope.names cl = (x, n) :: cl) (hps : ∀ h, pushCells h scope.names = h.push { cls := .type "cell", data := .cell none }) (hkind : scope.kind = .function)
    (hnames : ∀ y ∈ scope.names, y.2 = .local → scope.names.lookup y.1 = some .local) (hs : ∀ x, foldedSetIterable iter env x = pure x)
    (h : wpAny (model prog w) A (eval iter env) (fun xv s₁ => wpAny (model prog w) A (pyIter xv) (fun it s₂ => CompAtC prog w A env scope cl x px elt h₀
      (fun C D ys h' tk s₂ => ∀ h'', (∀ b o, b ≠ C → h'.get? b = some o → h''.get? b = some o) → h''.get? D = some (lst ys) → (∀ b o, h₀.get? b = some o → h''.get? b = some o) → Q (.ref D) { s₂ with heap := h'', toks := tk }) it s₂) E s₁) E s) :
    wpAny (model prog w) A (eval (.ListComp elt [⟨.Name x px, iter, [], 0⟩] scope pos) env) Q E s := by
  rw [eval_ListComp]
  refine wpAny_comprehension_free (use := none) rfl hs hclos hkind hnames (wpAny_mono h (fun xv s₁ h₁ => wpAny_mono h₁ (fun it s₂ h₂ => ?_) fun _ _ e => e) fun _ _ e => e)
  obtain ⟨I, fp, wr, n, P, St, J, rfl, W, hsz, hst, hfp, h0s, hwr, h0z, K, fin⟩ := h₂
  refine comp_blockC (RR := fun acc C => compPost (model prog w) A E none Q acc C) W hsz J hcs hps hst hfp h0s hwr h0z K ?_
  intro D C h' tk m' ys hD hC hDC hn hl hy hJ hk
  exact ⟨m', hn, fun h'' hs'' => fin C D h' tk ys hD hC hDC ⟨m', hn⟩ hl hy hJ hk h'' (fun b o nb e => hs''.extBut b o nb e) (hs''.extBut D _ hDC hl) fun b o e => hs''.extBut b o (by rintro rfl; rw [hC] at e; cases e) (hk b o e)⟩
end
end Mine
end

section
open PySem PySem.W PySem.Calls PyProof.Rows
namespace Mine
set_option maxRecDepth 100000
set_option maxHeartbeats 2000000

section
variable {prog : Program} {w : World} {A : Around} {E : Value → Shared → Prop} {s : Shared} {env : Env}

structure CompOk2 (prog : Program) (w : World) (A : Around) (env : Env) (scope : Scope) (cl : List (Str × Addr)) (target : PySem.Expr) (ifs : List PySem.Expr) (i1 : PySem.Expr) (h₀ : Heap) (s₂ : Shared) (wr : List Addr) (n : Nat) (P : Nat → Value → Heap → Prop)
    (J : Addr → Addr → Nat → List Value → Heap → Prop) : Prop where
  start : ∀ C D, J C D 0 [] s₂.heap
  stable : ∀ C D i ys h h', J C D i ys h → (∀ b o, b ≠ C → b ≠ D → b ∉ wr → h.get? b = some o → h'.get? b = some o) → J C D i ys h'
  turn : ∀ C D i v ys m h tk (E' : Value → Shared → Prop), i < n → P i v h → J C D i ys h → Fr h₀ C h m → h₀.get? D = none → C ≠ D → (∃ o, h.get? D = some o) → (∀ b ∈ wr, ∃ o, h.get? b = some o) →
    wpAny (model prog w) A (assign target (compEnvC scope cl C env) v) (fun _ s₃ => wpAny (model prog w) A (testsOf ifs (compEnvC scope cl C env)) (fun ok s₄ =>
      if ok = true then wpAny (model prog w) A (eval i1 (compEnvC scope cl C env)) (fun y s₅ => ∃ h' tk' m' l vs, y = .ref l ∧ s₅ = { s₂ with heap := h', toks := tk' } ∧ h'.IsList l (List.toArray vs) ∧ l ≠ C ∧ l ≠ D ∧ (ys ++ vs).length ≤ 1000 ∧ J C D (i + 1) (ys ++ vs) h' ∧ h'.Ns C m' ∧ ∀ b o, b ≠ C → h.get? b = some o → h'.get? b = some o) E' s₄
      else ∃ h' tk' m', s₄ = { s₂ with heap := h', toks := tk' } ∧ J C D (i + 1) ys h' ∧ h'.Ns C m' ∧ ∀ b o, b ≠ C → h.get? b = some o → h'.get? b = some o) E' s₃) E' { s₂ with heap := h, toks := tk }

theorem comp_block2 {k : Str} {pk pk' : Pos} {i0 i1 target : PySem.Expr} {ifs : List PySem.Expr} {scope : Scope} {cl : List (Str × Addr)} {pos : Pos} {s₂ : Shared} {I : Addr} {fp wr : List Addr} {n : Nat} {P : Nat → Value → Heap → Prop} {h₀ : Heap}
    {St : Nat → Heap → Prop} (hh : A.handled = none) (W : Src prog w A target I fp wr n P St) {RR : Value → Addr → Result → Shared → Prop} (J : Addr → Addr → Nat → List Value → Heap → Prop)
    (hcell : ∀ y ∈ scope.names, y.2 ≠ .cell) (hkind : scope.kind = .function) (hlk : scope.names.lookup k = some .local) (hdbg : (k == ("__debug__" : Str)) = false) (hs1 : ∀ C x, foldedSetIterable i1 (compEnvC scope cl C env) x = pure x)
    (hst : St 0 s₂.heap) (hfp : ∀ b ∈ fp, b < s₂.heap.objs.size) (h0s : ∀ b o, h₀.get? b = some o → s₂.heap.get? b = some o) (hwr : ∀ b ∈ wr, h₀.get? b = none) (h0z : h₀.objs.size ≤ s₂.heap.objs.size)
    (K : CompOk2 prog w A env scope cl target ifs i1 h₀ s₂ wr n P J)
    (hRR : ∀ D C h' tk m' ys, h₀.get? D = none → h₀.get? C = none → D ≠ C → h'.Ns C m' → h'.get? D = some (lst ys) → J C D n ys h' → (∀ b o, h₀.get? b = some o → h'.get? b = some o) → RR (.ref D) C (.ok .next) { s₂ with heap := h', toks := tk }) :
    wpAny (model prog w) A (newList []) (fun acc s₃ => wpAny (model prog w) A (newFunctionEnv scope env.globals cl [] env.qual none .none (some env)) (fun cenv s₄ =>
      codeAny (model prog w) A (.compStart (.ListComp (.Name k pk) [⟨target, i0, ifs, 0⟩, ⟨.Name k pk', i1, [], 0⟩] scope pos) 0 (.ref I) acc { cenv with scope := relabel scope env }) (RR acc cenv.locals) s₄) E s₃) E s₂ := by
  refine wpAny_newObj_type (wpAny_newFunctionEnv hcell (by intro y hy; simp at hy) (fun h₁ hns₁ hsb₁ => ?_) hkind)
  dsimp only at hns₁ hsb₁ ⊢
  generalize hH2 : s₂.heap.push { cls := .type "list", dict := none, data := .seq ([] : List Value).toArray } = H2 at hns₁ hsb₁ ⊢
  have hC : H2.objs.size = s₂.heap.objs.size + 1 := by rw [← hH2, Heap.size_push]
  have hDC : s₂.heap.objs.size ≠ H2.objs.size := by rw [hC]; exact Nat.ne_of_lt (Nat.lt_succ_self _)
  have below : ∀ b, b < s₂.heap.objs.size → b ≠ H2.objs.size ∧ b ≠ s₂.heap.objs.size := fun b hb => ⟨by rw [hC]; exact Nat.ne_of_lt (Nat.lt_succ_of_lt hb), Nat.ne_of_lt hb⟩
  have old : ∀ b o, s₂.heap.get? b = some o → h₁.get? b = some o := fun b o e => hsb₁.extBut b o (below b (Heap.lt_size e)).1 (Heap.get?_push_of_some _ (hH2 ▸ Heap.get?_push_of_some _ e))
  have hacc : h₁.get? s₂.heap.objs.size = some (lst []) := hsb₁.extBut _ _ hDC (Heap.get?_push_of_some _ (hH2 ▸ Heap.get?_push_size _ rfl))
  have fresh₀ : ∀ a, s₂.heap.objs.size ≤ a → h₀.get? a = none := fun a ha => Heap.get?_none_of_le (Nat.le_trans h0z ha)
  have hD₀ : h₀.get? s₂.heap.objs.size = none := fresh₀ _ (Nat.le_refl _)
  have hC₀ : h₀.get? H2.objs.size = none := fresh₀ _ (by rw [hC]; exact Nat.le_succ _)
  have hCab : h₀.objs.size ≤ H2.objs.size := by rw [hC]; exact Nat.le_trans h0z (Nat.le_succ _)
  have hDf : s₂.heap.objs.size ∉ fp := fun hm => Nat.lt_irrefl _ (hfp _ hm)
  have hCf : H2.objs.size ∉ fp := fun hm => by have := hfp _ hm; rw [hC] at this; exact Nat.lt_irrefl _ (Nat.lt_of_succ_lt this)
  generalize H2.objs.size = C at *
  generalize hDD : s₂.heap.objs.size = D at *
  have hst₁ : St 0 h₁ := W.frame _ _ _ hst fun b _ o e => old b o e
  have hpk : ((compEnvC scope cl C env).scope.kind == .class || ((compEnvC scope cl C env).scope.kind == .module && (compEnvC scope cl C env).locals != (compEnvC scope cl C env).globals)) = false := by simp [compEnvC, relabel, hkind]
  have loop : codeAny (model prog w) A (.compLoop (.ListComp (.Name k pk) [⟨target, i0, ifs, 0⟩, ⟨.Name k pk', i1, [], 0⟩] scope pos) 0 (.ref I) (.ref D) (compEnvC scope cl C env)) (RR (.ref D) C) { s₂ with heap := h₁, toks := s₂.toks + ([] : List (Str × Value)).length } := by
    refine loop_src (env := compEnvC scope cl C env) W
      (fun i s => ∃ h' tk m' ys, s = { s₂ with heap := h', toks := tk } ∧ Fr h₀ C h' m' ∧ h'.get? D = some (lst ys) ∧ J C D i ys h')
      (fun v Q s₁' => wpAny (model prog w) A (assign target (compEnvC scope cl C env) v) (fun _ s₂ =>
          wpAny (model prog w) A (testsOf ifs (compEnvC scope cl C env)) (fun ok s₃ =>
            if ok = true then wpAny (model prog w) A (eval i1 (compEnvC scope cl C env)) (fun x s₄ => wpAny (model prog w) A (pyIter x) (fun it' s₅ =>
              codeAny (model prog w) A (.compStart (.ListComp (.Name k pk) [⟨target, i0, ifs, 0⟩, ⟨.Name k pk', i1, [], 0⟩] scope pos) 1 it' (.ref D) (compEnvC scope cl C env)) (fun r s' => match r with | .ok _ => Q s' | .error e => cameBackBy (model prog w) A (compEnvC scope cl C env) (notedBy (model prog w) A (compEnvC scope cl C env) fun e s' => RR (.ref D) C (.error e) s') e s') s₅)
               (notedBy (model prog w) A (compEnvC scope cl C env) fun e s' => RR (.ref D) C (.error e) s') s₄) (notedBy (model prog w) A (compEnvC scope cl C env) fun e s' => RR (.ref D) C (.error e) s') s₃
            else Q s₃) (notedBy (model prog w) A (compEnvC scope cl C env) fun e s' => RR (.ref D) C (.error e) s') s₂) (notedBy (model prog w) A (compEnvC scope cl C env) fun e s' => RR (.ref D) C (.error e) s') s₁')
      (fun Inv turn k h => loop_outer (hs1 C) Inv turn k h) ?stable ?bmono ?turn ?done ⟨h₁, _, _, [], rfl, ⟨hns₁, fun b o e => old b o (h0s b o e), hCab⟩, hacc, K.stable _ _ _ _ _ _ (K.start C D) fun b o _ _ _ e => old b o e⟩ hst₁
    case stable =>
      rintro i s h' tk ⟨h2, tk2, m', ys, rfl, F, eD, hJ⟩ hk
      have hDw : D ∉ wr := fun h => hDf (W.sub _ h)
      have hCw : C ∉ wr := fun h => hCf (W.sub _ h)
      exact ⟨h', tk, m', ys, rfl, ⟨F.ns.at' fun o e => hk C o hCw e, fun b o e => hk b o (fun hm => by rw [hwr b hm] at e; cases e) (F.keep b o e), F.above⟩, hk _ _ hDw eD, K.stable _ _ _ _ _ _ hJ fun b o _ _ nb e => hk b o nb e⟩
    case bmono =>
      intro v s Q Q' hQ hb
      refine wpAny_mono hb (fun _ s₂ h₂ => wpAny_mono h₂ (fun ok s₃ h₃ => ?_) fun _ _ e => e) fun _ _ e => e
      cases ok with
      | false => exact hQ _ h₃
      | true => exact wpAny_mono h₃ (fun x s₄ h₄ => wpAny_mono h₄ (fun _ s₅ h₅ => codeAny_mono h₅ fun r s' hr => by cases r with | ok _ => exact hQ _ hr | error e => exact hr) fun _ _ e => e) fun _ _ e => e
    case turn =>
      rintro i v s hi hp hst' ⟨h2, tk2, m', ys, rfl, F, eD, hJ⟩
      have hwo : ∀ b ∈ wr, ∃ o, h2.get? b = some o := fun b hb => W.has _ _ hst' b (W.sub b hb)
      refine wpAny_mono (K.turn C D i v ys m' h2 tk2 _ hi hp hJ F hD₀ (Ne.symm hDC) ⟨_, eD⟩ hwo) (fun _ s₃ h₃ => wpAny_mono h₃ (fun ok s₄ h₄ => ?_) fun _ _ e => e) fun _ _ e => e
      cases ok with
      | false =>
        obtain ⟨h', tk', m2, rfl, hJ', hn', hk⟩ := h₄
        exact ⟨⟨h', tk', m2, ys, rfl, ⟨hn', fun b o e => hk b o (fun ea => by rw [ea, hC₀] at e; cases e) (F.keep b o e), F.above⟩, hk _ _ hDC eD, hJ'⟩, fun b hb o e => hk b o (fun ea => hCf (by rw [← ea]; exact hb)) e⟩
      | true =>
        refine wpAny_mono h₄ (fun y s₅ h₅ => ?_) fun _ _ e => e
        obtain ⟨h', tk', m2, l, vs, rfl, rfl, hl, hlC, hlD, hlen, hJ', hn', hk⟩ := h₅
        refine wpAny_pyIter_list hl ?_
        have eD' := hk _ _ hDC eD
        have hI2n : h'.get? h'.objs.size = none := Heap.get?_none_of_le (Nat.le_refl _)
        have hlI : l ≠ h'.objs.size := by obtain ⟨o, e, _⟩ := hl; exact Nat.ne_of_lt (Heap.lt_size e)
        have hDI : D ≠ h'.objs.size := Nat.ne_of_lt (Heap.lt_size eD')
        have hCI : C ≠ h'.objs.size := Nat.ne_of_lt hn'.lt
        have kp6 : ∀ b o, h'.get? b = some o → (h'.push { cls := .type "list_iterator", data := .fields #[.ref l, .int 0 0] }).get? b = some o := fun b o e => Heap.get?_push_of_some _ e
        have hit6 : (h'.push { cls := .type "list_iterator", data := .fields #[.ref l, .int 0 0] }).IsListIter h'.objs.size l 0 := ⟨_, Heap.get?_push_size _ rfl, rfl, rfl⟩
        generalize h'.push { cls := .type "list_iterator", data := .fields #[.ref l, .int 0 0] } = h6 at kp6 hit6 ⊢
        generalize h'.objs.size = I2 at hI2n hlI hDI hCI hit6 ⊢
        have hl6 : h6.IsList l vs.toArray := hl.at fun o e => kp6 _ _ e
        have W2 := Src.list (prog := prog) (w := w) (A := A) hh (.Name k pk') I2 l hlI vs.toArray
        have inner : codeAny (model prog w) A (.compLoop (.ListComp (.Name k pk) [⟨target, i0, ifs, 0⟩, ⟨.Name k pk', i1, [], 0⟩] scope pos) 1 (.ref I2) (.ref D) (compEnvC scope cl C env))
            (fun r s' => match r with | .ok _ => ((∃ h' tk m' ys, s' = { s₂ with heap := h', toks := tk } ∧ Fr h₀ C h' m' ∧ h'.get? D = some (lst ys) ∧ J C D (i + 1) ys h') ∧ ∀ b ∈ fp, ∀ o, h2.get? b = some o → s'.heap.get? b = some o) | .error e => cameBackBy (model prog w) A (compEnvC scope cl C env) (notedBy (model prog w) A (compEnvC scope cl C env) fun e s' => RR (.ref D) C (.error e) s') e s')
            { s₂ with heap := h6, toks := tk' } := by
          refine loop_src (env := compEnvC scope cl C env) W2
            (fun j s => ∃ h7 tk m', s = { s₂ with heap := h7, toks := tk } ∧ h7.Ns C m' ∧ h7.get? D = some (lst (ys ++ vs.take j)) ∧ (∀ b o, b ≠ C → b ≠ D → h'.get? b = some o → h7.get? b = some o))
            (fun v Q s₁' => wpAny (model prog w) A (assign (.Name k pk') (compEnvC scope cl C env) v) (fun _ s₂ =>
              wpAny (model prog w) A (testsOf [] (compEnvC scope cl C env)) (fun ok s₃ =>
                if ok = true then wpAny (model prog w) A (eval (.Name k pk) (compEnvC scope cl C env)) (fun x s₄ =>
                  wpAny (model prog w) A (call (.builtin "list.append") [.ref D, x]) (fun _ s₅ => Q s₅) _ s₄) _ s₃
                else Q s₃) _ s₂) _ s₁')
            (fun Inv turn k h => loop_inner Inv turn k h) ?st2 ?bm2 ?tn2 ?dn2 ⟨h6, _, _, rfl, hn'.at' fun o e => kp6 _ _ e, by rw [List.take_zero, List.append_nil]; exact kp6 _ _ eD', fun b o _ _ e => kp6 b o e⟩ ⟨hit6, hl6⟩
          case st2 =>
            rintro j s h8 tk8 ⟨h7, tk7, m7, rfl, hn7, eD7, k7⟩ hk8
            have nb : ∀ {b : Addr}, b ≠ I2 → b ∉ [I2] := fun n hm => n (List.mem_singleton.mp hm)
            exact ⟨h8, tk8, m7, rfl, hn7.at' fun o e => hk8 C o (nb hCI) e, hk8 D _ (nb hDI) eD7, fun b o n1 n2 e => hk8 b o (nb fun ea => by rw [ea, hI2n] at e; cases e) (k7 b o n1 n2 e)⟩
          case bm2 =>
            intro v s Q Q' hQ hb
            refine wpAny_mono hb (fun _ s₂ h₂ => wpAny_mono h₂ (fun ok s₃ h₃ => ?_) fun _ _ e => e) fun _ _ e => e
            cases ok with
            | false => exact hQ _ h₃
            | true => exact wpAny_mono h₃ (fun x s₄ h₄ => wpAny_mono h₄ (fun _ s₅ h₅ => hQ _ h₅) fun _ _ e => e) fun _ _ e => e
          case tn2 =>
            rintro j v s hj hv hst7 ⟨h7, tk7, m7, rfl, hn7, eD7, k7⟩
            have hvj : vs[j]? = some v := by rw [← List.getElem?_toArray]; exact hv
            refine wpAny_assign_Name (wpAny_storeName_local (lookup_relabel_local hlk) hn7 (fun h8 hn8 hs8 => ?_) hpk)
            refine wpAny_tests_nil ?_
            rw [if_pos rfl]
            refine wpAny_Name (wpAny_loadName_local (by simp [compEnvC, relabel, hkind]) (lookup_relabel_local hlk) hn8 (show (if k = k then some v else m7 k) = some v from if_pos rfl) ?_) hdbg
            have eD8 := hs8.extBut D _ hDC eD7
            refine append_at (hsz := by rw [List.size_toArray, sizeLine_eq]; rw [List.length_append] at hlen; rw [List.length_append, List.length_take]; omega) eD8 fun h9 hs9 hD9 => ?_
            have nx : ∀ b, b ≠ C → b ≠ D → ∀ o, h7.get? b = some o → h9.get? b = some o := fun b n1 n2 o e => hs9.extBut b o n2 (hs8.extBut b o n1 e)
            refine ⟨⟨h9, _, _, rfl, hn8.sameBut hs9 (Ne.symm hDC), ?_, fun b o n1 n2 e => nx b n1 n2 o (k7 b o n1 n2 e)⟩, fun b hb o e => ?_⟩
            · have key : ∀ zs : List Value, some ({ cls := .type "list", data := .seq (zs.toArray.push v) (zs.length + 1) } : Obj) = some (lst (zs ++ [v])) := by intro zs; simp
              rw [hD9, take_snoc hvj, ← List.append_assoc]
              exact key _
            · simp only [List.mem_cons, List.not_mem_nil, or_false] at hb
              rcases hb with rfl | rfl
              · exact nx _ (Ne.symm hCI) (Ne.symm hDI) o e
              · exact nx _ hlC hlD o e
          case dn2 =>
            rintro s ⟨h7, tk7, m7, rfl, hn7, eD7, k7⟩
            rw [List.size_toArray, List.take_length] at eD7
            refine ⟨⟨h7, tk7, m7, ys ++ vs, rfl, ⟨hn7, fun b o e => k7 b o (fun ea => by rw [ea, hC₀] at e; cases e) (fun ea => by rw [ea, hD₀] at e; cases e) (hk b o (fun ea => by rw [ea, hC₀] at e; cases e) (F.keep b o e)), F.above⟩, eD7,
              K.stable _ _ _ _ _ _ hJ' fun b o n1 n2 _ e => k7 b o n1 n2 e⟩, fun b hb o e => k7 b o (fun ea => hCf (by rw [← ea]; exact hb)) (fun ea => hDf (by rw [← ea]; exact hb)) (hk b o (fun ea => hCf (by rw [← ea]; exact hb)) e)⟩
        exact start_inner inner (W2.self 0 _ _ _ ⟨hit6, hl6⟩ inner)
    case done =>
      rintro s ⟨h2, tk2, m', ys, rfl, F, eD, hJ⟩
      exact hRR D C h2 tk2 m' ys hD₀ hC₀ hDC F.ns eD hJ F.keep
  exact codeAny_compStart_list loop (W.self 0 _ _ _ hst₁ loop)

def CompAt2 (prog : Program) (w : World) (A : Around) (env : Env) (scope : Scope) (cl : List (Str × Addr)) (target : PySem.Expr) (ifs : List PySem.Expr) (i1 : PySem.Expr) (h₀ : Heap)
    (Fin : Addr → Addr → List Value → Heap → Nat → Shared → Prop) (it : Value) (s₂ : Shared) : Prop :=
  ∃ I fp wr n P St J, it = .ref I ∧ Src prog w A target I fp wr n P St ∧ St 0 s₂.heap ∧ (∀ b ∈ fp, b < s₂.heap.objs.size) ∧ (∀ b o, h₀.get? b = some o → s₂.heap.get? b = some o) ∧ (∀ b ∈ wr, h₀.get? b = none) ∧ h₀.objs.size ≤ s₂.heap.objs.size ∧
    CompOk2 prog w A env scope cl target ifs i1 h₀ s₂ wr n P J ∧
    (∀ C D h' tk ys, h₀.get? D = none → h₀.get? C = none → D ≠ C → (∃ m, h'.Ns C m) → h'.get? D = some (lst ys) → J C D n ys h' → (∀ b o, h₀.get? b = some o → h'.get? b = some o) → Fin C D ys h' tk s₂)

theorem x_comp2 {k : Str} {pk pk' : Pos} {i0 i1 target : PySem.Expr} {ifs : List PySem.Expr} {scope : Scope} {cl : List (Str × Addr)} {pos : Pos} {Q : Value → Shared → Prop} {h₀ : Heap} (hh : A.handled = none)
    (hclos : closureFor scope env = pure cl) (hcell : ∀ y ∈ scope.names, y.2 ≠ .cell) (hkind : scope.kind = .function) (hlk : scope.names.lookup k = some .local) (hdbg : (k == ("__debug__" : Str)) = false) (hs1 : ∀ C x, foldedSetIterable i1 (compEnvC scope cl C env) x = pure x)
    (hnames : ∀ y ∈ scope.names, y.2 = .local → scope.names.lookup y.1 = some .local) (hs : ∀ x, foldedSetIterable i0 env x = pure x)
    (h : wpAny (model prog w) A (eval i0 env) (fun xv s₁ => wpAny (model prog w) A (pyIter xv) (fun it s₂ => CompAt2 prog w A env scope cl target ifs i1 h₀
      (fun C D ys h' tk s₂ => ∀ h'', (∀ b o, b ≠ C → h'.get? b = some o → h''.get? b = some o) → h''.get? D = some (lst ys) → (∀ b o, h₀.get? b = some o → h''.get? b = some o) → Q (.ref D) { s₂ with heap := h'', toks := tk }) it s₂) E s₁) E s) :
    wpAny (model prog w) A (eval (.ListComp (.Name k pk) [⟨target, i0, ifs, 0⟩, ⟨.Name k pk', i1, [], 0⟩] scope pos) env) Q E s := by
  rw [eval_ListComp]
  refine wpAny_comprehension_free (use := none) rfl hs hclos hkind hnames (wpAny_mono h (fun xv s₁ h₁ => wpAny_mono h₁ (fun it s₂ h₂ => ?_) fun _ _ e => e) fun _ _ e => e)
  obtain ⟨I, fp, wr, n, P, St, J, rfl, W, hst, hfp, h0s, hwr, h0z, K, fin⟩ := h₂
  refine comp_block2 (RR := fun acc C => compPost (model prog w) A E none Q acc C) hh W J hcell hkind hlk hdbg hs1 hst hfp h0s hwr h0z K ?_
  intro D C h' tk m' ys hD hC hDC hn hl hJ hk
  exact ⟨m', hn, fun h'' hs'' => fin C D h' tk ys hD hC hDC ⟨m', hn⟩ hl hJ hk h'' (fun b o nb e => hs''.extBut b o nb e) (hs''.extBut D _ hDC hl) fun b o e => hs''.extBut b o (by rintro rfl; rw [hC] at e; cases e) (hk b o e)⟩
end
end Mine
end

section
open PySem PySem.W PySem.Calls PyProof.Rows
namespace Mine
set_option maxRecDepth 100000
set_option maxHeartbeats 1000000

section
variable {prog : Program} {w : World} {A : Around} {E : Value → Shared → Prop} {s : Shared} {env : Env}

theorem sorted_raw {l : Addr} {vs : List Value} {ns : List Int} {Q : Value → Shared → Prop} (hl : s.heap.IsList l vs.toArray) (hI : IntsAre vs ns) (h64 : vs.length < 64)
    (q : ∀ D h' vs' ns' e, (∀ b o, s.heap.get? b = some o → h'.get? b = some o) → h'.get? D = some (listOf vs'.toArray e) → s.heap.get? D = none → IntsAre vs' ns' → ns'.Perm ns → ns'.Pairwise (· ≤ ·) → Q (.ref D) { s with heap := h' }) :
    wpAny (model prog w) A (call (.builtin "sorted") [.ref l]) Q E s := by
  refine sorted_ints hl hI h64 fun out ns' a1 a2 a3 => ?_
  obtain ⟨e, he⟩ := sortedAll_at s.heap vs out
  exact q _ _ out.toList ns' e (fun _ _ => sortedAll_old) he (Heap.get?_none_of_le (Nat.le_succ _)) a1 a2 a3

theorem sum_raw {l : Addr} {vs : List Value} {ns : List Int} {Q : Value → Shared → Prop} (hh : A.handled = none) (hl : s.heap.IsList l vs.toArray) (hi : IntsAre vs ns)
    (h : ∀ h' tk t', (∀ b o, s.heap.get? b = some o → h'.get? b = some o) → Q (.int ns.sum t') { s with heap := h', toks := tk }) : wpAny (model prog w) A (call (.builtin "sum") [.ref l]) Q E s := by
  obtain ⟨xs, hx⟩ := hi.allInts.items
  have hl' : s.heap.IsList l (intItems xs) := hx ▸ hl
  refine sum_intListG hh hl' fun h' tk t' hk => ?_
  have e1 : ns = xs.toList.map (·.1) := by
    rw [← nums_intItems, ← hx]
    exact (show numsOf vs.toArray.toList = ns from hi.numsOf).symm
  have e2 : preSum (numAt xs) xs.size = ns.sum := by
    rw [preSum_eq, List.take_of_length_le (by simp), e1]
  rw [e2]
  exact h h' tk t' hk

theorem range_raw {n : Nat} {t : Tok} {Q : Value → Shared → Prop}
    (q : ∀ r h' tk u v, (∀ b o, s.heap.get? b = some o → h'.get? b = some o) → s.heap.objs.size ≤ h'.objs.size → IsRange h' r 0 (n : Int) 1 u t v → Q (.ref r) { s with heap := h', toks := tk }) :
    wpAny (model prog w) A (call (.type "range") [.int (n : Int) t]) Q E s :=
  call_range_1 (q _ _ _ _ _ (fun b o e => Heap.get?_push_of_some _ e) (by rw [Heap.size_push]; exact Nat.le_succ _) (Heap.get?_push_size _ rfl))

theorem range_iter {r : Addr} {n : Nat} {t u v : Tok} {Q : Value → Shared → Prop} (hn : n ≤ 1000) (hr : IsRange s.heap r 0 (n : Int) 1 u t v)
    (q : ∀ I h', (∀ b o, s.heap.get? b = some o → h'.get? b = some o) → s.heap.get? I = none → I < h'.objs.size → s.heap.objs.size ≤ h'.objs.size → IsRangeIter h' I (0 + (0 : Nat) * 1) ((n : Int) - (0 : Nat)) 1 → Q (.ref I) { s with heap := h' }) :
    wpAny (model prog w) A (pyIter (.ref r)) Q E s := by
  have hz : Builtin.Range.rangeSize 0 (n : Int) 1 = n := by rw [rangeSize_one]; split <;> omega
  refine wpAny_pyIter_range hr (by unfold Builtin.Range.small; simp only [hz]; simp [Builtin.Range.rangeFitsLong]; omega) ?_
  refine q _ _ (fun b o e => Heap.get?_push_of_some _ e) (Heap.get?_none_of_le (Nat.le_refl _)) (by rw [Heap.size_push]; exact Nat.lt_succ_self _) (by rw [Heap.size_push]; exact Nat.le_succ _) ?_
  rw [hz]
  rw [show (0 + ((0 : Nat) : Int) * 1) = 0 by omega, show (n : Int) - ((0 : Nat) : Int) = n by omega]
  exact Heap.get?_push_size _ rfl

/-- a list of two is unpacked -/
theorem unpack_pair {l : Addr} {va vb : Value} {t1 t2 : Bool × (Value → Sem Unit)} {Q : Unit → Shared → Prop} (hh : A.handled = none) (hl : s.heap.IsList l #[va, vb]) (h1 : t1.1 = false) (h2 : t2.1 = false)
    (h : ∀ h', (∀ b o, s.heap.get? b = some o → h'.get? b = some o) → wpAny (model prog w) A (assignInOrder [t1.2, t2.2] [va, vb]) Q E { s with heap := h' }) :
    wpAny (model prog w) A (unpack (.ref l) [t1, t2]) Q E s := by
  have hlt : l ≠ s.heap.objs.size := by obtain ⟨o, ho, _⟩ := hl; exact Nat.ne_of_lt (Heap.lt_size ho)
  unfold unpack
  have hst : [t1, t2].findIdx? (·.1) = none := by simp [h1, h2]
  rw [hst]
  refine wpAny_bind (wpAny_holding ?_)
  unfold unpackItems
  refine wpAny_bind ?_
  unfold notIterableAtAll
  refine wpAny_bind (wpAny_specialOf hl.typeIs slot_list_iter.lookup ?_)
  refine wpAny_pure ?_
  simp only [Bool.false_eq_true, if_false]
  refine wpAny_bind (wpAny_holding (wpAny_pyIter_list hl ?_))
  refine wpAny_bind (wpAny_holding ?_)
  show wpAny _ _ (draw _ 2) _ _ _
  have hit0 : (s.heap.push { cls := .type "list_iterator", data := .fields #[.ref l, .int 0 0] }).IsListIter s.heap.objs.size l 0 := ⟨_, Heap.get?_push_size _ rfl, rfl, rfl⟩
  have hl0 := hl.push { cls := .type "list_iterator", data := .fields #[.ref l, .int 0 0] }
  have kp0 : ∀ b o, s.heap.get? b = some o → (s.heap.push { cls := .type "list_iterator", data := .fields #[.ref l, .int 0 0] }).get? b = some o := fun b o e => Heap.get?_push_of_some _ e
  have hne : ∀ b o, s.heap.get? b = some o → b ≠ s.heap.objs.size := fun b o e => Nat.ne_of_lt (Heap.lt_size e)
  generalize s.heap.objs.size = I at hit0 hne hlt ⊢
  generalize s.heap.push { cls := .type "list_iterator", data := .fields #[.ref l, .int 0 0] } = h0 at hit0 hl0 kp0 ⊢
  show wpAny _ _ (pyNext (.ref I) >>= _) _ _ _
  refine wpAny_bind (wpAny_pyNext_list_item hit0 hl0 (x := va) rfl fun h₁ hit₁ hs₁ => ?_)
  have hl1 := hl0.extBut hs₁.extBut hlt
  refine wpAny_bind (wpAny_holding ?_)
  show wpAny _ _ (pyNext (.ref I) >>= _) _ _ _
  refine wpAny_bind (wpAny_pyNext_list_item hit₁ hl1 (x := vb) rfl fun h₂ hit₂ hs₂ => ?_)
  have hl2 := hl1.extBut hs₂.extBut hlt
  refine wpAny_bind (wpAny_holding (wpAny_pure (wpAny_pure (wpAny_pure ?_))))
  rw [if_neg (by simp)]
  refine wpAny_bind (wpAny_holding (wpAny_pyNext_list_end hh hit₂ hl2 (by simp) fun h₃ he₃ => ?_))
  simp only [Option.isSome_none, Bool.false_eq_true, if_false]
  refine wpAny_pure ?_
  exact h h₃ fun b o e => he₃ b o (hne b o e) (hs₂.extBut b o (hne b o e) (hs₁.extBut b o (hne b o e) (kp0 b o e)))

theorem assign_pair_list {e1 e2 : PySem.Expr} {k : Nat} {pos : Pos} {l : Addr} {va vb : Value} {Q : Unit → Shared → Prop} (hh : A.handled = none) (hl : s.heap.IsList l #[va, vb])
    (hst : (assignEach [e1, e2] env) = [(false, assign e1 env), (false, assign e2 env)])
    (h : ∀ h', (∀ b o, s.heap.get? b = some o → h'.get? b = some o) → wpAny (model prog w) A (assign e1 env va) (fun _ s₂ => wpAny (model prog w) A (assign e2 env vb) (fun _ s₃ => Q () s₃) E s₂) E { s with heap := h' }) :
    wpAny (model prog w) A (assign (.Tuple [e1, e2] k pos) env (.ref l)) Q E s := by
  rw [arm_assign_Tuple, hst]
  refine wpAny_bind (wpAny_standAt (unpack_pair hh hl rfl rfl fun h' k => ?_))
  unfold assignInOrder
  refine wpAny_bind (wpAny_holding (wpAny_mono (h h' k) (fun _ s₂ h₂ => ?_) fun _ _ e => e))
  unfold assignInOrder
  refine wpAny_bind (wpAny_holding (wpAny_mono h₂ (fun _ s₃ h₃ => ?_) fun _ _ e => e))
  unfold assignInOrder
  exact wpAny_pure h₃
end
end Mine
end

section
open PySem PySem.W PySem.Calls PyProof.Rows Builtin Builtin.ObjectAttr
namespace Mine
set_option maxRecDepth 100000
set_option maxHeartbeats 1000000

section
variable {w : World} {A : Around} {E : Value → Shared → Prop} {h : Heap} {g : Array GenState} {d : Drawn} {tk : Nat} {os : OsState}
variable {b dx : Addr} {es : Array DictEntry} {ep : Nat} {sl : Array (Option Value)}

theorem entry_dictItems : entryFor table "dict.items" = some Builtin.«dict.items» := entryFor_of_tree (by kernel_rfl)
theorem di_kind : builtinKind "dict.items" = some .method := by decide +kernel
theorem di_split : splitId "dict.items" = some ("dict", "items") := by decide +kernel
theorem di_args (a : Value) : argsOk "dict.items" ⟨[a], []⟩ := by unfold argsOk; kernel_rfl

theorem items_call {Q : Value → Shared → Prop} (X : (hd.heap_39 w.params).In h) (hsm : (b == sysModules) = false) (hb : h.get? b = some ⟨.ref 65, some dx, .dict es ep, sl⟩)
    (q : Q (.ref h.objs.size) ⟨h.push { cls := .type "dict_items", data := .fields #[.ref b] }, g, d, tk, os⟩) :
    wpAny (model PP w) A (call (.builtin "dict.items") [.ref b]) Q E ⟨h, g, d, tk, os⟩ := by
  have t1 : Looks (model PP w) h (typeOf (.ref b)) (.ref 65) := (Looks.ld hb).andThen .now
  have i1 : Looks (model PP w) h (isInstance (.ref b) (.type "dict")) true := t1.andThen (looks_mroIn X (by kernel_rfl))
  have o1 : Looks (model PP w) h (isSubtype (.ref 65) (.type "collections.OrderedDict")) false := looks_mroIn X (by kernel_rfl)
  refine wpAny_call (bmeth "dict.items" "dict" "items" (.ref b) [] (by decide +kernel) di_kind di_split entry_dictItems i1 (di_args _) ?_)
  unfold Builtin.«dict.items»
  have sa : Builtin.Dict.showsAll b = pure () := by unfold Builtin.Dict.showsAll; rw [if_neg (by rw [hsm]; exact Bool.false_ne_true)]
  repeat (first | (with_reducible rw [sa]) | lk)
  exact q


theorem items_iter {v : Addr} {Q : Value → Shared → Prop} (hv : h.get? v = some { cls := .type "dict_items", data := .fields #[.ref b] }) (hb : h.get? b = some ⟨.ref 65, some dx, .dict es ep, sl⟩)
    (q : Q (.ref h.objs.size) ⟨h.push { cls := .type "dict_itemiterator", data := .fields #[.none, .bool false, .ref b, .int 0 0, .int es.size 0, .int ep 0, .none, .none] }, g, d, tk, os⟩) :
    wpAny (model PP w) A (pyIter (.ref v)) Q E ⟨h, g, d, tk, os⟩ := by
  have hT : Shared.TypeIs ⟨h, g, d, tk, os⟩ (.ref v) "dict_items" := ⟨_, hv, rfl⟩
  refine wpAny_pyIter_slot hT PySem.F.slot_dict_items_iter (wpAny_call_entry PySem.F.slot_dict_items_iter hT PySem.F.entry_dict_items_iter ?_ (PySem.F.args_dict_items_iter_1 _))
  unfold Builtin.«dict_items.__iter__»
  have hown : Builtin.Dict_items.ownsTuple "dict_itemiterator" = true := by decide
  repeat (first | (with_reducible rw [hown]) | lk)
  exact ⟨_, rfl, "dict_itemiterator", _, ⟨_, Heap.get?_push_size _ rfl, rfl⟩, PySem.F.slot_dict_itemiterator_next.lookup, q⟩

theorem nd_update_to {α : Type} {M : Model} {Q : α → Shared → Prop} {s : Shared} {k : Unit → Sem α} {a : Addr} {p : Option Value} {f : Obj → Obj} {o o' : Obj} (ho : s.heap.get? a = some o) (hf : f o = o') (hfr : o'.isFreed = false)
    (h : ∀ h', h'.get? a = some o' → (∀ b x, b ≠ a → s.heap.get? b = some x → h'.get? b = some x) → h'.objs.size = s.heap.objs.size → wpAny M A (k ()) Q E { s with heap := h' }) : wpAny M A (.update a p f k) Q E s :=
  nd_update ho (h _ (by rw [← hf]; exact Heap.get?_update_self _ ho (by rw [hf]; exact hfr)) (fun b x n e => (Heap.get?_update_other _ _ (Ne.symm n)).trans e) (Heap.size_after_update _ _ _))

theorem items_next {it : Addr} {i : Nat} {ok ov : Value} {Q : Option Value → Shared → Prop} (hit : IsItemIter h it b i es.size ep ok ov) (hb : h.get? b = some ⟨.ref 65, some dx, .dict es ep, sl⟩) (hi : i < es.size)
    (q : ∀ h' T, IsItemIterOut h' it b (i + 1) es.size ep es[i].key es[i].val T → h'.get? T = some { cls := .type "tuple", data := .seq #[es[i].key, es[i].val] } → h.get? T = none → (∀ x o, x ≠ it → h.get? x = some o → h'.get? x = some o) → Q (some (.ref T)) ⟨h', g, d, tk, os⟩) :
    wpAny (model PP w) A (pyNext (.ref it)) Q E ⟨h, g, d, tk, os⟩ := by
  have hT : Shared.TypeIs ⟨h, g, d, tk, os⟩ (.ref it) "dict_itemiterator" := ⟨_, hit, rfl⟩
  unfold pyNext
  refine wpAny_bind (wpAny_attempt (wpAny_callSpecial?_slot (name := Str.ofString "__next__") hT PySem.F.slot_dict_itemiterator_next
    (wpAny_call_entry PySem.F.slot_dict_itemiterator_next hT PySem.F.entry_dict_itemiterator_next ?_ (PySem.F.args_dict_itemiterator_next_1 _))))
  unfold Builtin.«dict_itemiterator.__next__»
  have hown : Builtin.Dict_items.ownsTuple "dict_itemiterator" = true := by decide
  repeat (first | (with_reducible rw [hown]) | lk)
  rw [if_neg (by simp)]
  repeat lk
  rw [if_neg (by simp)]
  repeat lk
  have hni : ¬ ((i : Int) < 0) := by omega
  rw [if_neg hni, Int.toNat_natCast, Array.getElem?_eq_getElem hi]
  repeat (first | (with_reducible rw [hown]) | lk)
  refine nd_update_to hit (o' := { cls := .type "dict_itemiterator", dict := none, data := .fields #[.none, .bool false, .ref b, .int ((i + 1 : Nat) : Int) 0, .int es.size 0, .int ep 0, ok, ov], slots := #[] }) (by kernel_rfl) rfl fun h₁ he₁ kp₁ sz₁ => ?_
  have hT₁ : Looks (model PP w) h₁ (typeOf (.ref it)) (.type "dict_itemiterator") := (Looks.ld he₁).andThen .now
  repeat (first | (with_reducible rw [hown]) | lk)
  have he₂ : (h₁.push { cls := .type "tuple", data := .seq #[es[i].key, es[i].val] }).get? it = _ := Heap.get?_push_of_some _ he₁
  have ht₂ : (h₁.push { cls := .type "tuple", data := .seq #[es[i].key, es[i].val] }).get? h₁.objs.size = some { cls := .type "tuple", data := .seq #[es[i].key, es[i].val] } := Heap.get?_push_size _ rfl
  have kp₂ : ∀ x o, x ≠ it → h.get? x = some o → (h₁.push { cls := .type "tuple", data := .seq #[es[i].key, es[i].val] }).get? x = some o := fun x o nx e => Heap.get?_push_of_some _ (kp₁ x o nx e)
  have hTn : h.get? h₁.objs.size = none := Heap.get?_none_of_le (by rw [sz₁]; exact Nat.le_refl _)
  have hTit : h₁.objs.size ≠ it := Nat.ne_of_gt (Heap.lt_size he₁)
  generalize h₁.objs.size = T at ht₂ hTn hTit ⊢
  change wpAny _ _ _ _ _ ⟨h₁.push { cls := .type "tuple", data := .seq #[es[i].key, es[i].val] }, g, d, tk, os⟩
  generalize h₁.push { cls := .type "tuple", data := .seq #[es[i].key, es[i].val] } = h₂ at he₂ ht₂ kp₂ ⊢
  repeat lk
  refine nd_update_to he₂ (o' := { cls := .type "dict_itemiterator", dict := none, data := .fields #[.none, .bool false, .ref b, .int ((i + 1 : Nat) : Int) 0, .int es.size 0, .int ep 0, es[i].key, ov], slots := #[] }) rfl rfl fun h₃ he₃ kp₃ sz₃ => ?_
  repeat lk
  refine nd_update_to he₃ (o' := { cls := .type "dict_itemiterator", dict := none, data := .fields #[.none, .bool false, .ref b, .int ((i + 1 : Nat) : Int) 0, .int es.size 0, .int ep 0, es[i].key, es[i].val], slots := #[] }) rfl rfl fun h₄ he₄ kp₄ sz₄ => ?_
  repeat lk
  refine nd_update_to he₄ (o' := { cls := .type "dict_itemiterator", dict := none, data := .fields #[rawInt T, .bool false, .ref b, .int ((i + 1 : Nat) : Int) 0, .int es.size 0, .int ep 0, es[i].key, es[i].val], slots := #[] }) rfl rfl fun h₅ he₅ kp₅ sz₅ => ?_
  repeat lk
  refine nd_update_to he₅ (o' := { cls := .type "dict_itemiterator", dict := none, data := .fields #[rawInt T, .bool false, .ref b, .int ((i + 1 : Nat) : Int) 0, .int es.size 0, .int ep 0, es[i].key, es[i].val], slots := #[] }) rfl rfl fun h₆ he₆ kp₆ sz₆ => ?_
  repeat lk
  have kp₆' : ∀ x o, x ≠ it → h₂.get? x = some o → h₆.get? x = some o := fun x o nx e => kp₆ x o nx (kp₅ x o nx (kp₄ x o nx (kp₃ x o nx e)))
  exact ⟨_, rfl, wpAny_pure (q h₆ T he₆ (kp₆' _ _ hTit ht₂) hTn fun x o nx e => kp₆' x o nx (kp₂ x o nx e))⟩

theorem items_end {it : Addr} {ok ov : Value} {Q : Option Value → Shared → Prop} (hh : A.handled = none) (hit : IsItemIter h it b es.size es.size ep ok ov) (hb : h.get? b = some ⟨.ref 65, some dx, .dict es ep, sl⟩)
    (q : ∀ h' tk', (∀ x o, x ≠ it → h.get? x = some o → h'.get? x = some o) → Q none ⟨h', g, d, tk', os⟩) :
    wpAny (model PP w) A (pyNext (.ref it)) Q E ⟨h, g, d, tk, os⟩ := by
  have hT : Shared.TypeIs ⟨h, g, d, tk, os⟩ (.ref it) "dict_itemiterator" := ⟨_, hit, rfl⟩
  unfold pyNext
  refine wpAny_bind (wpAny_attempt (wpAny_callSpecial?_slot (name := Str.ofString "__next__") hT PySem.F.slot_dict_itemiterator_next
    (wpAny_call_entry PySem.F.slot_dict_itemiterator_next hT PySem.F.entry_dict_itemiterator_next ?_ (PySem.F.args_dict_itemiterator_next_1 _))))
  unfold Builtin.«dict_itemiterator.__next__»
  have hown : Builtin.Dict_items.ownsTuple "dict_itemiterator" = true := by decide
  repeat (first | (with_reducible rw [hown]) | lk)
  rw [if_neg (by simp)]
  repeat lk
  rw [if_neg (by simp)]
  repeat lk
  have hni : ¬ ((es.size : Int) < 0) := by omega
  rw [if_neg hni, Int.toNat_natCast, Array.getElem?_eq_none (Nat.le_refl _)]
  repeat (first | (with_reducible rw [hown]) | lk)
  refine nd_update_to hit (o' := { cls := .type "dict_itemiterator", dict := none, data := .fields #[.none, .bool false, .none, .int (es.size : Int) 0, .int es.size 0, .int ep 0, ok, ov], slots := #[] }) (by kernel_rfl) rfl fun h₁ he₁ kp₁ sz₁ => ?_
  repeat lk
  refine wpAny_handled ?_
  rw [show A.in1.handled = none from hh]
  repeat lk
  refine wpAny_throw ?_
  refine wpAny_bind (wpAny_isInstance (T := "StopIteration") (b := true) ⟨_, Heap.get?_push_size _ rfl, rfl⟩ isSubtype_stop ?_)
  exact wpAny_pure (q _ _ fun x o nx e => Heap.get?_push_of_some _ (Heap.get?_push_of_some _ (kp₁ x o nx e)))

/-- the rows of a book as a source of pairs -/
theorem Src.items (hh : A.handled = none) (elts : List PySem.Expr) (k : Nat) (pos : Pos) (I b : Addr) (hne : b ≠ I) (dx : Addr) (es : Array DictEntry) (ep : Nat) (sl : Array (Option Value)) :
    Src PP w A (.Tuple elts k pos) I [I, b] [I] es.size (fun i v h => ∃ T e, es[i]? = some e ∧ v = .ref T ∧ h.IsTuple T #[e.key, e.val])
      (fun i h => (∃ ok ov, IsItemIter h I b i es.size ep ok ov) ∧ h.get? b = some ⟨.ref 65, some dx, .dict es ep, sl⟩) where
  sub := fun b hb => by simp at hb; simp [hb]
  frame := fun i h h' ⟨⟨ok, ov, e1⟩, e2⟩ hk => ⟨⟨ok, ov, hk I (by simp) _ e1⟩, hk b (by simp) _ e2⟩
  has := fun i h ⟨⟨ok, ov, e1⟩, e2⟩ x hx => by
    simp only [List.mem_cons, List.not_mem_nil, or_false] at hx
    rcases hx with rfl | rfl
    · exact ⟨_, e1⟩
    · exact ⟨_, e2⟩
  item := fun i s Q E hi ⟨⟨ok, ov, e1⟩, e2⟩ hQ => by
    obtain ⟨h, g, d, tk, os⟩ := s
    refine items_next e1 e2 hi fun h' T he hT hTn hk => ?_
    dsimp only
    have hTI : T ≠ I := fun ea => by rw [ea, e1] at hTn; cases hTn
    refine wpAny_letOwnedTupleGo_items he fun h₂ he₂ hs₂ => ?_
    refine hQ _ h₂ tk ⟨T, es[i], by simp [hi], rfl, ⟨_, hs₂.extBut T _ hTI hT, rfl, _, rfl⟩⟩ ⟨⟨_, _, he₂⟩, hs₂.extBut b _ hne (hk b _ hne e2)⟩ fun x o nx e => ?_
    have nx' : x ≠ I := fun ea => nx (by simp [ea])
    exact hs₂.extBut x o nx' (hk x o nx' e)
  done := fun s Q E ⟨⟨ok, ov, e1⟩, e2⟩ hQ => by
    obtain ⟨h, g, d, tk, os⟩ := s
    exact items_end hh e1 e2 fun h' tk' hk => ⟨rfl, hQ h' tk' fun x o nx e => hk x o (fun ea => nx (by simp [ea])) e⟩
  self := fun i s Q E ⟨⟨ok, ov, e1⟩, e2⟩ hQ => by
    exact kcp_self e1 hQ

end
end Mine
end

section
open PySem PySem.W PySem.Calls PyProof.Rows
namespace Mine
set_option maxRecDepth 100000
set_option maxHeartbeats 1000000

section
variable {prog : Program} {w : World} {A : Around} {E : Value → Shared → Prop} {s : Shared} {env : Env}

theorem over_list {scope : Scope} {cl : List (Str × Addr)} {target : PySem.Expr} {ifs : List PySem.Expr} {elt : PySem.Expr} {Fin : Addr → Addr → List Value → Heap → Nat → Shared → Prop} {l : Addr} {its : Array Value} (hh : A.handled = none) (hl : s.heap.IsList l its) (hsz : its.size ≤ 1000)
    (J : Addr → Addr → Addr → Nat → List Value → Heap → Prop)
    (h : ∀ I h₂, (∀ b o, s.heap.get? b = some o → h₂.get? b = some o) → s.heap.get? I = none → CompOk prog w A env scope cl target ifs elt s.heap { s with heap := h₂ } [I] its.size (fun i v _ => its[i]? = some v) (J I) ∧
      ∀ C D h' tk ys, s.heap.get? D = none → s.heap.get? C = none → D ≠ C → (∃ m, h'.Ns C m) → h'.get? D = some (lst ys) → ys.length ≤ its.size → J I C D its.size ys h' → (∀ b o, s.heap.get? b = some o → h'.get? b = some o) → Fin C D ys h' tk { s with heap := h₂ }) :
    wpAny (model prog w) A (pyIter (.ref l)) (CompAt prog w A env scope cl target ifs elt s.heap Fin) E s := by
  refine wpAny_pyIter_list hl ?_
  have hne : l ≠ s.heap.objs.size := by obtain ⟨o, e, _⟩ := hl; exact Nat.ne_of_lt (Heap.lt_size e)
  obtain ⟨h1, h2⟩ := h s.heap.objs.size (s.heap.push { cls := .type "list_iterator", data := .fields #[.ref l, .int 0 0] }) (fun b o e => Heap.get?_push_of_some _ e) (Heap.get?_none_of_le (Nat.le_refl _))
  refine ⟨s.heap.objs.size, _, _, _, _, _, J s.heap.objs.size, rfl, Src.list hh _ _ l hne its, hsz, ⟨⟨_, Heap.get?_push_size _ rfl, rfl, rfl⟩, hl.push _⟩, ?_, fun b o e => Heap.get?_push_of_some _ e, ?_, by rw [Heap.size_push]; exact Nat.le_succ _, h1, h2⟩
  · intro x hx
    simp only [List.mem_cons, List.not_mem_nil, or_false] at hx
    rw [Heap.size_push]
    rcases hx with rfl | rfl
    · exact Nat.lt_succ_self _
    · obtain ⟨o, e, _⟩ := hl; exact Nat.lt_succ_of_lt (Heap.lt_size e)
  · intro x hx; rw [List.mem_singleton.mp hx]; exact Heap.get?_none_of_le (Nat.le_refl _)

theorem over_listC {scope : Scope} {cl : List (Str × Addr)} {x : Str} {px : Pos} {elt : PySem.Expr} {Fin : Addr → Addr → List Value → Heap → Nat → Shared → Prop} {l : Addr} {its : Array Value} (hh : A.handled = none) (hl : s.heap.IsList l its) (hsz : its.size ≤ 1000)
    (J : Addr → Addr → Addr → Nat → List Value → Heap → Prop)
    (h : ∀ I h₂, (∀ b o, s.heap.get? b = some o → h₂.get? b = some o) → s.heap.get? I = none → CompOkC prog w A env scope cl x elt s.heap { s with heap := h₂ } [I] its.size (fun i v _ => its[i]? = some v) (J I) ∧
      ∀ C D h' tk ys, s.heap.get? D = none → s.heap.get? C = none → D ≠ C → (∃ m, h'.Ns C m) → h'.get? D = some (lst ys) → ys.length ≤ its.size → J I C D its.size ys h' → (∀ b o, s.heap.get? b = some o → h'.get? b = some o) → Fin C D ys h' tk { s with heap := h₂ }) :
    wpAny (model prog w) A (pyIter (.ref l)) (CompAtC prog w A env scope cl x px elt s.heap Fin) E s := by
  refine wpAny_pyIter_list hl ?_
  have hne : l ≠ s.heap.objs.size := by obtain ⟨o, e, _⟩ := hl; exact Nat.ne_of_lt (Heap.lt_size e)
  obtain ⟨h1, h2⟩ := h s.heap.objs.size (s.heap.push { cls := .type "list_iterator", data := .fields #[.ref l, .int 0 0] }) (fun b o e => Heap.get?_push_of_some _ e) (Heap.get?_none_of_le (Nat.le_refl _))
  refine ⟨s.heap.objs.size, _, _, _, _, _, J s.heap.objs.size, rfl, Src.list hh _ _ l hne its, hsz, ⟨⟨_, Heap.get?_push_size _ rfl, rfl, rfl⟩, hl.push _⟩, ?_, fun b o e => Heap.get?_push_of_some _ e, ?_, by rw [Heap.size_push]; exact Nat.le_succ _, h1, h2⟩
  · intro x hx
    simp only [List.mem_cons, List.not_mem_nil, or_false] at hx
    rw [Heap.size_push]
    rcases hx with rfl | rfl
    · exact Nat.lt_succ_self _
    · obtain ⟨o, e, _⟩ := hl; exact Nat.lt_succ_of_lt (Heap.lt_size e)
  · intro x hx; rw [List.mem_singleton.mp hx]; exact Heap.get?_none_of_le (Nat.le_refl _)

theorem over_list2 {scope : Scope} {cl : List (Str × Addr)} {target : PySem.Expr} {ifs : List PySem.Expr} {i1 : PySem.Expr} {Fin : Addr → Addr → List Value → Heap → Nat → Shared → Prop} {l : Addr} {its : Array Value} (hh : A.handled = none) (hl : s.heap.IsList l its)
    (J : Addr → Addr → Addr → Nat → List Value → Heap → Prop)
    (h : ∀ I h₂, (∀ b o, s.heap.get? b = some o → h₂.get? b = some o) → s.heap.get? I = none → CompOk2 prog w A env scope cl target ifs i1 s.heap { s with heap := h₂ } [I] its.size (fun i v _ => its[i]? = some v) (J I) ∧
      ∀ C D h' tk ys, s.heap.get? D = none → s.heap.get? C = none → D ≠ C → (∃ m, h'.Ns C m) → h'.get? D = some (lst ys) → J I C D its.size ys h' → (∀ b o, s.heap.get? b = some o → h'.get? b = some o) → Fin C D ys h' tk { s with heap := h₂ }) :
    wpAny (model prog w) A (pyIter (.ref l)) (CompAt2 prog w A env scope cl target ifs i1 s.heap Fin) E s := by
  refine wpAny_pyIter_list hl ?_
  have hne : l ≠ s.heap.objs.size := by obtain ⟨o, e, _⟩ := hl; exact Nat.ne_of_lt (Heap.lt_size e)
  obtain ⟨h1, h2⟩ := h s.heap.objs.size (s.heap.push { cls := .type "list_iterator", data := .fields #[.ref l, .int 0 0] }) (fun b o e => Heap.get?_push_of_some _ e) (Heap.get?_none_of_le (Nat.le_refl _))
  refine ⟨s.heap.objs.size, _, _, _, _, _, J s.heap.objs.size, rfl, Src.list hh _ _ l hne its, ⟨⟨_, Heap.get?_push_size _ rfl, rfl, rfl⟩, hl.push _⟩, ?_, fun b o e => Heap.get?_push_of_some _ e, ?_, by rw [Heap.size_push]; exact Nat.le_succ _, h1, h2⟩
  · intro x hx
    simp only [List.mem_cons, List.not_mem_nil, or_false] at hx
    rw [Heap.size_push]
    rcases hx with rfl | rfl
    · exact Nat.lt_succ_self _
    · obtain ⟨o, e, _⟩ := hl; exact Nat.lt_succ_of_lt (Heap.lt_size e)
  · intro x hx; rw [List.mem_singleton.mp hx]; exact Heap.get?_none_of_le (Nat.le_refl _)

/-- a list of two is unpacked into two local names -/
theorem assign_pair_list_L {c₀ : Heap} {m : Str → Option Value} {x y : Str} {px py pos : Pos} {k : Nat} {l : Addr} {va vb : Value} {Q : Unit → Shared → Prop} (hh : A.handled = none) (hl : s.heap.IsList l #[va, vb]) (F : Fr c₀ env.locals s.heap m)
    (hx : env.kindOf x = some .local) (hy : env.kindOf y = some .local) (hp : (env.scope.kind == .class || (env.scope.kind == .module && env.locals != env.globals)) = false)
    (q : ∀ h' tk', Fr c₀ env.locals h' (fun z => if z = y then some vb else if z = x then some va else m z) → (∀ b o, b ≠ env.locals → s.heap.get? b = some o → h'.get? b = some o) → Q () { s with heap := h', toks := tk' }) :
    wpAny (model prog w) A (assign (.Tuple [.Name x px, .Name y py] k pos) env (.ref l)) Q E s := by
  refine assign_pair_list hh hl rfl fun h' kp => ?_
  refine wpAny_assign_Name (store_keeps (F.keeps kp) hx hp fun h₂ tk₂ F₂ kp₂ => ?_)
  refine wpAny_assign_Name (store_keeps F₂ hy hp fun h₃ tk₃ F₃ kp₃ => ?_)
  exact q h₃ tk₃ F₃ fun b o nb e => kp₃ b o nb (kp₂ b o nb (kp b o e))
end
end Mine
end

section
open PySem PySem.W PySem.Calls PyProof.Rows
namespace Mine
set_option maxRecDepth 100000
set_option maxHeartbeats 1000000

/-- lists of ints, off some places -/
inductive LsAre (h : Heap) (bad : List Addr) : List Value → List (List Int) → Prop
  | nil : LsAre h bad [] []
  | cons {a vs e ns ys nss} : a ∉ bad → h.get? a = some (listOf (List.toArray vs) e) → IntsAre vs ns → LsAre h bad ys nss → LsAre h bad (.ref a :: ys) (ns :: nss)
theorem LsAre.snoc {h : Heap} {bad : List Addr} {a : Addr} {vs : List Value} {e : Nat} {ns : List Int} (h1 : a ∉ bad) (h2 : h.get? a = some (listOf vs.toArray e)) (h3 : IntsAre vs ns) : ∀ {ys nss}, LsAre h bad ys nss → LsAre h bad (ys ++ [.ref a]) (nss ++ [ns])
  | _, _, .nil => .cons h1 h2 h3 .nil
  | _, _, .cons g1 g2 g3 r => .cons g1 g2 g3 (r.snoc h1 h2 h3)
theorem LsAre.keeps {h h' : Heap} {bad : List Addr} (k : ∀ b o, b ∉ bad → h.get? b = some o → h'.get? b = some o) : ∀ {ys nss}, LsAre h bad ys nss → LsAre h' bad ys nss
  | _, _, .nil => .nil
  | _, _, .cons g1 g2 g3 r => .cons g1 (k _ _ g1 g2) g3 (r.keeps k)
theorem LsAre.free {h h' : Heap} {bad : List Addr} (k : ∀ b o, b ∉ bad → h.get? b = some o → h'.get? b = some o) : ∀ {ys nss}, LsAre h bad ys nss → LsAre h' [] ys nss
  | _, _, .nil => .nil
  | _, _, .cons g1 g2 g3 r => .cons (List.not_mem_nil) (k _ _ g1 g2) g3 (r.free k)
def dataOf (nss : List (List Int)) : List PyData := nss.map fun ns => .list (ns.map .int)
set_option linter.unusedVariables false
theorem LsAre.reads {h : Heap} {bad : List Addr} : ∀ {ys nss}, LsAre h bad ys nss → ∃ as, ReadsAll h ys (dataOf nss) as
  | _, _, .nil => ⟨_, .nil⟩
  | _, _, .cons g1 g2 g3 r => let ⟨as, x⟩ := r.reads; ⟨_, .cons (reads_newData ⟨_, g2, rfl, _, rfl⟩ (ke_carried g3)) x⟩
theorem dataOf_lay : ∀ nss : List (List Int), PyData.canLayAll0 (dataOf nss) = true
  | [] => rfl
  | ns :: r => by
    show PyData.canLayAll0 (.list (ns.map .int) :: dataOf r) = true
    simp [PyData.canLayAll0, PyData.canLay0, ke_canLayAll0, dataOf_lay r]
theorem dataOf_depth : ∀ nss : List (List Int), PyData.depthAll (dataOf nss) ≤ 1
  | [] => by simp [dataOf, PyData.depthAll]
  | ns :: r => by
    show PyData.depthAll (.list (ns.map .int) :: dataOf r) ≤ 1
    have := dataOf_depth r
    simp [PyData.depthAll, PyData.depth, ke_depthAll]
    omega
theorem dataOf_shaped (nss : List (List Int)) : SeqAt.shaped (.list (dataOf nss)) = true := by
  have := dataOf_depth nss
  simp [SeqAt.shaped, PyData.canLay0, PyData.depth, dataOf_lay]
  omega

/-- rows: lists of a text and a list of ints -/
inductive RwAre (h : Heap) (bad : List Addr) : List Value → List (Str × List Int) → Prop
  | nil : RwAre h bad [] []
  | cons {a k t l e e2 vs ns ys rs} : a ∉ bad → l ∉ bad → h.get? a = some (listOf #[.str k t, .ref l] e) → h.get? l = some (listOf (List.toArray vs) e2) → IntsAre vs ns → RwAre h bad ys rs → RwAre h bad (.ref a :: ys) ((k, ns) :: rs)
theorem RwAre.snoc {h : Heap} {bad : List Addr} {a l : Addr} {k : Str} {t : Tok} {vs : List Value} {e e2 : Nat} {ns : List Int} (h0 : a ∉ bad) (h1 : l ∉ bad) (h2 : h.get? a = some (listOf #[.str k t, .ref l] e)) (h3 : h.get? l = some (listOf vs.toArray e2)) (h4 : IntsAre vs ns) :
    ∀ {ys rs}, RwAre h bad ys rs → RwAre h bad (ys ++ [.ref a]) (rs ++ [(k, ns)])
  | _, _, .nil => .cons h0 h1 h2 h3 h4 .nil
  | _, _, .cons g0 g1 g2 g3 g4 r => .cons g0 g1 g2 g3 g4 (r.snoc h0 h1 h2 h3 h4)
theorem RwAre.keeps {h h' : Heap} {bad : List Addr} (k : ∀ b o, b ∉ bad → h.get? b = some o → h'.get? b = some o) : ∀ {ys nss}, RwAre h bad ys nss → RwAre h' bad ys nss
  | _, _, .nil => .nil
  | _, _, .cons g0 g1 g2 g3 g4 r => .cons g0 g1 (k _ _ g0 g2) (k _ _ g1 g3) g4 (r.keeps k)
theorem RwAre.free {h h' : Heap} {bad : List Addr} (k : ∀ b o, b ∉ bad → h.get? b = some o → h'.get? b = some o) : ∀ {ys nss}, RwAre h bad ys nss → RwAre h' [] ys nss
  | _, _, .nil => .nil
  | _, _, .cons g0 g1 g2 g3 g4 r => .cons (List.not_mem_nil) (List.not_mem_nil) (k _ _ g0 g2) (k _ _ g1 g3) g4 (r.free k)
theorem RwAre.get {h : Heap} {bad : List Addr} : ∀ {ys rs}, RwAre h bad ys rs → ∀ {i : Nat} {v : Value}, ys[i]? = some v → ∃ (a : Addr) (k : Str) (t : Tok) (l : Addr) (e e2 : Nat) (vs : List Value) (ns : List Int), v = Value.ref a ∧ rs[i]? = some (k, ns) ∧ h.get? a = some (listOf #[.str k t, .ref l] e) ∧ h.get? l = some (listOf (List.toArray vs) e2) ∧ IntsAre vs ns
  | _, _, .nil, i, v, hv => by simp at hv
  | _, _, .cons (a := a) (k := k) (t := t) (l := l) (e := e) (e2 := e2) (vs := vs) (ns := ns) g0 g1 g2 g3 g4 r, i, v, hv => by
    cases i with
    | zero => cases hv; exact ⟨a, k, t, l, e, e2, vs, ns, rfl, rfl, g2, g3, g4⟩
    | succ i => exact r.get (i := i) hv
theorem RwAre.length {h : Heap} {bad : List Addr} : ∀ {ys rs}, RwAre h bad ys rs → ys.length = rs.length
  | _, _, .nil => rfl
  | _, _, .cons _ _ _ _ _ r => by simp [r.length]
theorem LsAre.length {h : Heap} {bad : List Addr} : ∀ {ys rs}, LsAre h bad ys rs → ys.length = rs.length
  | _, _, .nil => rfl
  | _, _, .cons _ _ _ r => by simp [r.length]

theorem StrsAre.get' : ∀ {vs : List Value} {ys : List Str}, StrsAre vs ys → ∀ {i : Nat} {v : Value}, vs[i]? = some v → ∃ (y : Str) (t : Tok), ys[i]? = some y ∧ v = Value.str y t
  | _, _, .nil, i, v, hv => by simp at hv
  | _, _, .cons y t r, i, v, hv => by
    cases i with
    | zero => cases hv; exact ⟨y, t, rfl, rfl⟩
    | succ i => exact StrsAre.get' r (i := i) hv
theorem StrsAre.length' : ∀ {vs : List Value} {ys : List Str}, StrsAre vs ys → vs.length = ys.length
  | _, _, .nil => rfl
  | _, _, .cons _ _ r => by simp [StrsAre.length' r]

/-- the state in _law_right -/
structure RS (h : Heap) (L : Addr) (H : Heap) (m : Str → Option Value) (lt b : Addr) (n : Int) (tn : Tok) (vk vr : Option Value) : Prop where
  F : Fr h L H m
  t : H.IsCell (L + 1) (some (.ref lt))
  b : H.IsCell (L + 2) (some (.ref b))
  w : H.IsCell (L + 3) (some (.int n tn))
  k : H.IsCell (L + 4) vk
  r : H.IsCell (L + 5) vr
theorem isCell_at {H H' : Heap} {a : Addr} {v : Option Value} (x : H.IsCell a v) (k : ∀ o, H.get? a = some o → H'.get? a = some o) : H'.IsCell a v := let ⟨o, e, r⟩ := x; ⟨o, k _ e, r⟩
theorem RS.keeps {h H H' : Heap} {L : Addr} {m} {lt b : Addr} {n : Int} {tn : Tok} {vk vr} (x : RS h L H m lt b n tn vk vr) (k : ∀ a o, H.get? a = some o → H'.get? a = some o) : RS h L H' m lt b n tn vk vr :=
  ⟨x.F.keeps k, isCell_at x.t (k _), isCell_at x.b (k _), isCell_at x.w (k _), isCell_at x.k (k _), isCell_at x.r (k _)⟩
/-- all kept but a place that was not there at some former state -/
theorem RS.but {h H₀ H H' : Heap} {L C : Addr} {m m₀} {lt b lt₀ b₀ : Addr} {n n₀ : Int} {tn tn₀ : Tok} {vk vr vk₀ vr₀} (x₀ : RS h L H₀ m₀ lt₀ b₀ n₀ tn₀ vk₀ vr₀) (x : RS h L H m lt b n tn vk vr) (hC : H₀.get? C = none) (k : ∀ a o, a ≠ C → H.get? a = some o → H'.get? a = some o) : RS h L H' m lt b n tn vk vr := by
  have ne : ∀ a o, H₀.get? a = some o → a ≠ C := fun a o e ea => by rw [ea, hC] at e; cases e
  have cn : ∀ {a v}, H₀.IsCell a v → a ≠ C := fun ⟨o, e, _⟩ => ne _ _ e
  have hL : L ≠ C := let ⟨o, _, _, e, _⟩ := x₀.F.ns; ne _ _ e
  exact ⟨⟨x.F.ns.at' fun o e => k L o hL e, fun a o e => k a o (ne _ _ (x₀.F.keep a o e)) (x.F.keep a o e), x.F.above⟩, isCell_at x.t fun o e => k _ o (cn x₀.t) e, isCell_at x.b fun o e => k _ o (cn x₀.b) e, isCell_at x.w fun o e => k _ o (cn x₀.w) e,
    isCell_at x.k fun o e => k _ o (cn x₀.k) e, isCell_at x.r fun o e => k _ o (cn x₀.r) e⟩
/-- the frame's place alone changes -/
theorem RS.setL {h H H' : Heap} {L : Addr} {m m'} {lt b : Addr} {n : Int} {tn : Tok} {vk vr} (x : RS h L H m lt b n tn vk vr) (F' : Fr h L H' m') (k : ∀ a o, a ≠ L → H.get? a = some o → H'.get? a = some o) : RS h L H' m' lt b n tn vk vr := by
  have ne : ∀ i : Nat, 0 < i → L + i ≠ L := fun i hi e => absurd (show Nat.add L i = L from e) (by show ¬ Nat.add L i = L; exact Nat.ne_of_gt (Nat.lt_add_of_pos_right hi))
  exact ⟨F', isCell_at x.t fun o e => k _ o (ne 1 (by omega)) e, isCell_at x.b fun o e => k _ o (ne 2 (by omega)) e, isCell_at x.w fun o e => k _ o (ne 3 (by omega)) e, isCell_at x.k fun o e => k _ o (ne 4 (by omega)) e, isCell_at x.r fun o e => k _ o (ne 5 (by omega)) e⟩

theorem fresh_bad {H : Heap} {bad : List Addr} {x : Addr} (he : ∀ b ∈ bad, ∃ o, H.get? b = some o) (hn : H.get? x = none) : x ∉ bad := fun hm => by
  obtain ⟨o, e⟩ := he x hm
  rw [hn] at e; cases e
theorem ex_cons {H H' : Heap} {C : Addr} {bad : List Addr} (hC : ∃ o, H'.get? C = some o) (k : ∀ b o, b ≠ C → H.get? b = some o → H'.get? b = some o) (hb : ∀ b ∈ bad, ∃ o, H.get? b = some o) : ∀ b ∈ C :: bad, ∃ o, H'.get? b = some o := fun b hm => by
  by_cases e : b = C
  · rw [e]; exact hC
  · rcases List.mem_cons.mp hm with h | h
    · exact absurd h e
    · obtain ⟨o, eo⟩ := hb b h; exact ⟨o, k b o e eo⟩
theorem ex_keeps {H H' : Heap} {bad : List Addr} (k : ∀ b o, H.get? b = some o → H'.get? b = some o) (hb : ∀ b ∈ bad, ∃ o, H.get? b = some o) : ∀ b ∈ bad, ∃ o, H'.get? b = some o := fun b hm => let ⟨o, e⟩ := hb b hm; ⟨o, k b o e⟩
theorem RS.ex {h H : Heap} {L : Addr} {m} {lt b : Addr} {n : Int} {tn : Tok} {vk vr} (x : RS h L H m lt b n tn vk vr) : ∀ a ∈ [L, L + 4, L + 5], ∃ o, H.get? a = some o := fun a ha => by
  simp only [List.mem_cons, List.not_mem_nil, or_false] at ha
  rcases ha with rfl | rfl | rfl
  · obtain ⟨o, _, _, e, _⟩ := x.F.ns; exact ⟨o, e⟩
  · obtain ⟨o, e, _⟩ := x.k; exact ⟨o, e⟩
  · obtain ⟨o, e, _⟩ := x.r; exact ⟨o, e⟩
theorem LsAre.weaken {h h' : Heap} {bad bad' : List Addr} (hs : ∀ x, x ∈ bad' → x ∈ bad) (k : ∀ b o, b ∉ bad → h.get? b = some o → h'.get? b = some o) : ∀ {ys nss}, LsAre h bad ys nss → LsAre h' bad' ys nss
  | _, _, .nil => .nil
  | _, _, .cons g1 g2 g3 r => .cons (fun hm => g1 (hs _ hm)) (k _ _ g1 g2) g3 (r.weaken hs k)
theorem RwAre.weaken {h h' : Heap} {bad bad' : List Addr} (hs : ∀ x, x ∈ bad' → x ∈ bad) (k : ∀ b o, b ∉ bad → h.get? b = some o → h'.get? b = some o) : ∀ {ys nss}, RwAre h bad ys nss → RwAre h' bad' ys nss
  | _, _, .nil => .nil
  | _, _, .cons g0 g1 g2 g3 g4 r => .cons (fun hm => g0 (hs _ hm)) (fun hm => g1 (hs _ hm)) (k _ _ g0 g2) (k _ _ g1 g3) g4 (r.weaken hs k)
theorem sub3 {x C D I L1 L2 L3 : Addr} (h : x ∈ [L1, L2, L3]) : x ∈ [C, D, I, L1, L2, L3] := by
  simp only [List.mem_cons] at h ⊢
  exact .inr (.inr (.inr h))
theorem off6 {x C D I L1 L2 L3 : Addr} (h : x ∉ [C, D, I, L1, L2, L3]) : x ≠ C ∧ x ≠ D ∧ x ≠ I ∧ x ≠ L1 ∧ x ≠ L2 ∧ x ≠ L3 := by
  simp only [List.mem_cons, List.not_mem_nil, or_false, not_or] at h
  exact h
/-- the cell of the rows, or of the key, alone changes -/
theorem cell_ne {L : Addr} {i j : Nat} (h : i ≠ j) : (L + i : Addr) ≠ (L + j : Addr) := fun e => h (by have : Nat.add L i = Nat.add L j := e; exact Nat.add_left_cancel this)
theorem cell_ne0 {L : Addr} {i : Nat} (h : 0 < i) : (L + i : Addr) ≠ L := fun e => absurd (show Nat.add L i = L from e) (Nat.ne_of_gt (Nat.lt_add_of_pos_right h))
theorem RS.setR {h H H' : Heap} {L : Addr} {m} {lt b : Addr} {n : Int} {tn : Tok} {vk vr vr'} (x : RS h L H m lt b n tn vk vr) (hr : H'.IsCell (L + 5) vr') (k : ∀ a o, a ≠ L + 5 → H.get? a = some o → H'.get? a = some o) : RS h L H' m lt b n tn vk vr' :=
  ⟨⟨x.F.ns.at' fun o e => k L o (Ne.symm (cell_ne0 (by decide))) e, fun a o e => k a o (Nat.ne_of_lt (Nat.lt_of_lt_of_le (Heap.lt_size e) (Nat.le_trans x.F.above (Nat.le_add_right _ _)))) (x.F.keep a o e), x.F.above⟩,
    isCell_at x.t fun o e => k _ o (cell_ne (by decide)) e, isCell_at x.b fun o e => k _ o (cell_ne (by decide)) e, isCell_at x.w fun o e => k _ o (cell_ne (by decide)) e, isCell_at x.k fun o e => k _ o (cell_ne (by decide)) e, hr⟩
theorem RS.setK {h H H' : Heap} {L : Addr} {m} {lt b : Addr} {n : Int} {tn : Tok} {vk vr vk'} (x : RS h L H m lt b n tn vk vr) (hr : H'.IsCell (L + 4) vk') (k : ∀ a o, a ≠ L + 4 → H.get? a = some o → H'.get? a = some o) : RS h L H' m lt b n tn vk' vr :=
  ⟨⟨x.F.ns.at' fun o e => k L o (Ne.symm (cell_ne0 (by decide))) e, fun a o e => k a o (Nat.ne_of_lt (Nat.lt_of_lt_of_le (Heap.lt_size e) (Nat.le_trans x.F.above (Nat.le_add_right _ _)))) (x.F.keep a o e), x.F.above⟩,
    isCell_at x.t fun o e => k _ o (cell_ne (by decide)) e, isCell_at x.b fun o e => k _ o (cell_ne (by decide)) e, isCell_at x.w fun o e => k _ o (cell_ne (by decide)) e, hr, isCell_at x.r fun o e => k _ o (cell_ne (by decide)) e⟩

section
variable {w : World} {A : Around} {E : Value → Shared → Prop} {h : Heap} {g : Array GenState} {d : Drawn} {tk : Nat} {os : OsState}
variable {p : Program} {loose : List Str} {mean : ExcName → Option Value} {mg mb : Str → Option Value}
theorem fillFrag_LRight1 (w : World) : hd.heap_39 w.params = hd.heap_39 w.params ∧ PySem.Challenge.rw_il0158_01 = PySem.Challenge.rw_il0158_01 := by k_fill; exact ⟨rfl, rfl⟩

/-- a frozen book is asked for a text -/
theorem frozen_item {value slice : PySem.Expr} {b dx lf : Addr} {k : Str} {t : Tok} {rows : List Row} {ep : Nat} {Q : Value → Shared → Prop} (X : (hd.heap_39 w.params).In h) (T : Top p loose mean mg mb h) (hroom : A.depth + 2 < recursionLimit) (hsm : (b == sysModules) = false)
    (Z : Frozen w h b dx (rows.map (entryOf w)).toArray ep lf)
    (hit : ∀ r tk', rows.find? (fun r => r.key == k) = some r → Q (.ref r.addr) ⟨h, g, d, tk', os⟩)
    (miss : rows.find? (fun r => r.key == k) = none → ∀ l h' tk', (∀ a o, h.get? a = some o → h'.get? a = some o) → h'.get? l = some (listOf #[] 0) → h.get? l = none → Q (.ref l) ⟨h', g, d, tk', os⟩)
    (hsl : subscripted slice false (.ref b) (.str k t) = operate [.ref b, .str k t] (getItem (.ref b) (.str k t)) := by with_unfolding_all rfl) :
    wpAny (model PP w) A (subscriptTail value slice (.ref b) (.str k t)) Q E ⟨h, g, d, tk, os⟩ := by
  refine book_sub X hsm Z.book (fun r hr => hit r _ hr) (fun hn => ?_) hsl
  exact missing_frozen X T hroom Z fun l h' tk' kp hl hln => miss hn l h' tk' kp hl hln

def askF (data : List (Str × List Int)) (k : Str) : List Int := ((data.find? fun r => r.1 == k).map (·.2)).getD []
theorem askF_some {rows : List Row} {k : Str} {r : Row} (h : rows.find? (fun r => r.key == k) = some r) : askF (rows.map rowData) k = r.places := by
  unfold askF
  rw [List.find?_map]
  have : ((fun r : Str × List Int => r.1 == k) ∘ rowData) = fun r : Row => r.key == k := rfl
  rw [this, h]; rfl
theorem askF_none {rows : List Row} {k : Str} (h : rows.find? (fun r => r.key == k) = none) : askF (rows.map rowData) k = [] := by
  unfold askF
  rw [List.find?_map]
  have : ((fun r : Str × List Int => r.1 == k) ∘ rowData) = fun r : Row => r.key == k := rfl
  rw [this, h]; rfl
theorem askF_cases (data : List (Str × List Int)) (k : Str) : askF data k = [] ∨ ∃ r ∈ data, askF data k = r.2 := by
  unfold askF
  cases h : data.find? fun r => r.1 == k with
  | none => exact .inl rfl
  | some r => exact .inr ⟨r, List.mem_of_find?_eq_some h, rfl⟩
theorem frozen_ask {value slice : PySem.Expr} {b dx lf : Addr} {k : Str} {t : Tok} {rows : List Row} {ep : Nat} {Q : Value → Shared → Prop} (X : (hd.heap_39 w.params).In h) (T : Top p loose mean mg mb h) (hroom : A.depth + 2 < recursionLimit) (hsm : (b == sysModules) = false)
    (Z : Frozen w h b dx (rows.map (entryOf w)).toArray ep lf) (lists : RowsAt h rows)
    (q : ∀ a h' tk' vs e, (∀ a o, h.get? a = some o → h'.get? a = some o) → h'.get? a = some (listOf (List.toArray vs) e) → IntsAre vs (askF (rows.map rowData) k) → Q (.ref a) ⟨h', g, d, tk', os⟩)
    (hsl : subscripted slice false (.ref b) (.str k t) = operate [.ref b, .str k t] (getItem (.ref b) (.str k t)) := by with_unfolding_all rfl) :
    wpAny (model PP w) A (subscriptTail value slice (.ref b) (.str k t)) Q E ⟨h, g, d, tk, os⟩ := by
  refine frozen_item X T hroom hsm Z (fun r tk' hr => ?_) (fun hr l h' tk' kp hl _ => ?_) hsl
  · have := lists.at_ r (List.mem_of_find?_eq_some hr)
    exact q r.addr h tk' r.vals r.ep (fun _ _ e => e) this.1 (by rw [askF_some hr]; exact this.2)
  · exact q l h' tk' [] 0 kp hl (by rw [askF_none hr]; exact .nil)

theorem perm_sorted_eq : ∀ {a b : List Int}, a.Perm b → a.Pairwise (· ≤ ·) → b.Pairwise (· ≤ ·) → a = b
  | [], b, p, _, _ => by rw [List.nil_perm.mp p]
  | x :: a, [], p, _, _ => absurd p.symm (by simp)
  | x :: a, y :: b, p, ha, hb => by
    rw [List.pairwise_cons] at ha hb
    have h1 : x ≤ y := by
      rcases List.mem_cons.mp (p.symm.mem_iff.mp (List.mem_cons_self (a := y) (l := b))) with e | e
      · rw [e]; exact Int.le_refl _
      · exact ha.1 _ e
    have h2 : y ≤ x := by
      rcases List.mem_cons.mp (p.mem_iff.mp (List.mem_cons_self (a := x) (l := a))) with e | e
      · rw [e]; exact Int.le_refl _
      · exact hb.1 _ e
    obtain rfl : x = y := Int.le_antisymm h1 h2
    rw [perm_sorted_eq (List.Perm.cons_inv p) ha.2 hb.2]

/-- sorted places -/
def sortF (ns : List Int) : List Int := ns.mergeSort (fun a b => decide (a ≤ b))
theorem sortF_perm (ns : List Int) : (sortF ns).Perm ns := List.mergeSort_perm ns _
theorem sortF_sorted (ns : List Int) : (sortF ns).Pairwise (· ≤ ·) := by
  have := List.pairwise_mergeSort (le := fun a b : Int => decide (a ≤ b)) (fun a b c h1 h2 => by simp at *; omega) (fun a b => by simp; omega) ns
  exact this.imp fun h => by simpa using h
theorem sort_eq {a b : List Int} (p : a.Perm b) (h : a.Pairwise (· ≤ ·)) : a = sortF b := perm_sorted_eq (p.trans (sortF_perm b).symm) h (sortF_sorted b)
theorem sortF_len (ns : List Int) : (sortF ns).length = ns.length := (sortF_perm ns).length_eq
def sdF (data : List (Str × List Int)) : List (Str × List Int) := data.map fun r => (r.1, sortF r.2)
theorem sdF_len (data : List (Str × List Int)) : (sdF data).length = data.length := List.length_map _
theorem sdF_sum (data : List (Str × List Int)) : ((sdF data).map fun r : Str × List Int => (r.2.length : Int)).sum = (data.map fun r : Str × List Int => (r.2.length : Int)).sum := by
  unfold sdF
  rw [List.map_map]
  congr 1
  exact List.map_congr_left fun r _ => by simp [sortF_len]
/-- what _law_right finds good -/
structure Good (texts probes : List Str) (data : List (Str × List Int)) (n : Int) : Prop where
  hash : ∀ r ∈ data, r.1 ≠ "#"
  klen : ∀ r ∈ data, r.1.length ≤ 1000
  plen : ∀ r ∈ data, r.2.length < 60
  rlen : data.length < 60
  ne : ∀ r ∈ sdF data, r.2 ≠ []
  eq : ∀ r ∈ sdF data, r.2 = ((List.range texts.length).filter fun k => leftF r.1 (texts.getD k "") n).map Int.ofNat
  firsts : ((sdF data).map fun r => r.2.headD 0).Pairwise (· ≤ ·)
  sum : ((sdF data).map fun r => (r.2.length : Int)).sum = texts.length
  asked : ∀ p ∈ probes, sortF (askF data (cramF p n)) = (sdF data).flatMap fun r => if leftF r.1 p n then r.2 else []
theorem Good.klenS {texts probes : List Str} {data : List (Str × List Int)} {n : Int} (G : Good texts probes data n) : ∀ r ∈ sdF data, r.1.length ≤ 1000 := fun r hr => by
  obtain ⟨r', h, rfl⟩ := List.mem_map.mp hr; exact G.klen r' h
theorem Good.plenS {texts probes : List Str} {data : List (Str × List Int)} {n : Int} (G : Good texts probes data n) : ∀ r ∈ sdF data, r.2.length < 60 := fun r hr => by
  obtain ⟨r', h, rfl⟩ := List.mem_map.mp hr
  show (sortF r'.2).length < 60
  rw [sortF_len]; exact G.plen r' h
theorem Good.ask {texts probes : List Str} {data : List (Str × List Int)} {n : Int} (G : Good texts probes data n) (k : Str) : (askF data k).length < 60 := by
  rcases askF_cases data k with e | ⟨r, hr, e⟩
  · rw [e]; decide
  · rw [e]; exact G.plen r hr
def flatF (data : List (Str × List Int)) (p : Str) (n : Int) : List Int := data.flatMap fun r => if leftF r.1 p n then r.2 else []
theorem flat_len (p : Str) (n : Int) : ∀ (data : List (Str × List Int)) (i : Nat), ((flatF (data.take i) p n).length : Int) ≤ (data.map fun r => (r.2.length : Int)).sum
  | [], i => by simp [flatF]
  | r :: l, 0 => by
    have := flat_len p n l 0
    simp [flatF] at this ⊢
    omega
  | r :: l, i + 1 => by
    have := flat_len p n l i
    rw [List.take_succ_cons]
    simp only [flatF, List.flatMap_cons, List.length_append, List.map_cons, List.sum_cons] at this ⊢
    split
    · push_cast; omega
    · simp only [List.length_nil]; push_cast; omega
theorem flat_snoc {p : Str} {n : Int} {data : List (Str × List Int)} {i : Nat} {r : Str × List Int} (h : data[i]? = some r) : flatF (data.take (i + 1)) p n = flatF (data.take i) p n ++ if leftF r.1 p n then r.2 else [] := by
  rw [take_snoc h]
  simp [flatF]
end
end Mine
end

section
open PySem PySem.W PySem.Calls PyProof.Rows
namespace Mine
set_option maxRecDepth 100000
set_option maxHeartbeats 2000000

section
variable {w : World} {A : Around} {E : Value → Shared → Prop} {h : Heap} {g : Array GenState} {d : Drawn} {tk : Nat} {os : OsState}
variable {p : Program} {loose : List Str} {mean : ExcName → Option Value} {mg mb : Str → Option Value}
theorem fillFrag_LRight2 (w : World) : hd.heap_39 w.params = hd.heap_39 w.params ∧ PySem.Challenge.rw_il0158_01 = PySem.Challenge.rw_il0158_01 := by k_fill; exact ⟨rfl, rfl⟩

theorem x_builtin {prog : Program} {s : Shared} {env : Env} {K : Frag} {x : Str} {pos : Pos} {v : Value} {Q : Value → Shared → Prop} (X : K.In s.heap) (T : Top p loose mean mg mb s.heap) (e : nsIn K mainGlobals x = some none) (hv : bootBuiltins x = some v) (hn : x ≠ "__name__") (h : Q v s)
    (hk : env.scope.kind = .function) (hx : env.kindOf x = some .globalImplicit) (hg : env.globals = mainGlobals) (hb : env.builtins = builtinsNs) (hd : (x == ("__debug__" : Str)) = false := by decide) :
    wpAny (model prog w) A (eval (.Name x pos) env) Q E s :=
  Name_function_global hk hx (loadGlobal_builtin (env := env) (hg ▸ (topRead_of T).g) (mg_none_of X (topRead_of T).g e) (hb ▸ (topRead_of T).b) (((topRead_of T).builtins x hn).trans hv) h) hd

theorem x_cell {prog : Program} {s : Shared} {env : Env} {x : Str} {pos : Pos} {c : Addr} {v : Value} {Q : Value → Shared → Prop} (hv : s.heap.IsCell c (some v)) (h : Q v s) (hk : env.scope.kind = .function) (hx : env.kindOf x = some .cell) (hc : env.cells.lookup x = some c) (hd : (x == ("__debug__" : Str)) = false := by decide) :
    wpAny (model prog w) A (eval (.Name x pos) env) Q E s := wpAny_Name (wpAny_loadName_cell hk hx hc hv h) hd

theorem right_spec {lt lp b dx lf : Addr} {tv pv : List Value} {texts probes : List Str} {rows : List Row} {ep : Nat} {n : Int} {tn : Tok} {Q : Value → Shared → Prop} (X : (hd.heap_39 w.params).In h) (T : Top p loose mean mg mb h) (hroom : A.depth + 12 < recursionLimit) (hu : A.units + 200 < cLine) (hh : A.handled = none)
    (hlt : h.IsList lt tv.toArray) (htv : StrsAre tv texts) (htl : ∀ t ∈ texts, t.length ≤ 1000) (htn : texts.length ≤ 60) (hlp : h.IsList lp pv.toArray) (hpv : StrsAre pv probes) (hpl : ∀ t ∈ probes, t.length ≤ 1000) (hpn : probes.length ≤ 60)
    (hsm : (b == sysModules) = false) (Z : Frozen w h b dx (rows.map (entryOf w)).toArray ep lf) (lists : RowsAt h rows) (G : Good texts probes (rows.map rowData) n)
    (q : ∀ h' tk', (∀ a o, h.get? a = some o → h'.get? a = some o) → Q (.bool true) ⟨h', g, d, tk', os⟩) :
    wpAny (model PP w) A (call (.ref 88) [.ref lt, .ref lp, .ref b, .int n tn]) Q E ⟨h, g, d, tk, os⟩ := by
  refine wpAny_call ?_
  refine' enterC X T ?k6 ?k7 ?k8 ?k9 ?kB ?_ ?c2 ?c3 ?c4
  case k6 => k_is
  case k7 => k_is
  case k8 => omega
  case k9 => exact BindsTo.of_eq rfl
  case kB => exact rfl
  case c2 => exact rfl
  case c3 => exact rfl
  case c4 => exact rfl
  have hhd : ∀ env, (A.deeper env).handled = none := fun _ => hh
  intro L h₁ tk₁ F' hcells
  have S1 : RS h L h₁ _ lt b n tn none none := ⟨F', hcells "texts" (L + 1) rfl, hcells "book" (L + 2) rfl, hcells "width" (L + 3) rfl, hcells "key" (L + 4) rfl, hcells "rows" (L + 5) rfl⟩
  dsimp only at S1 ⊢
  clear hcells F'
  have hnone : rows.find? (fun r => r.key == ("#" : Str)) = none := by
    rw [List.find?_eq_none]
    intro r hr e
    exact G.hash _ (List.mem_map_of_mem hr) (by simpa [rowData] using e)
  -- book['#'].append(0)
  refine x_cons (x_expr (x_meth ?_ rfl) rfl rfl)
  show wpAny _ _ (PySem.eval (PySem.Expr.Subscript _ _ _) _) _ _ _
  refine Subscript_ ?_
  refine wpAny_Name (wpAny_loadName_cell rfl rfl rfl S1.b ?_) (by decide)
  refine Calls.Constant_str ?_
  refine frozen_item (X.keeps S1.F.keep) (T.keeps S1.F.keep) (show A.depth + 1 + 2 < recursionLimit by omega) hsm (Z.keeps S1.F.keep) (fun r tk' hr => by rw [hnone] at hr; cases hr) fun _ l h₂ tk₂ kp2 hl2 hln2 => ?_
  refine getMethod_builtin (s := ⟨h₂, g, d, tk₂, os⟩) ⟨_, hl2, rfl⟩ PySem.F.plainAttrs_list PySem.F.slot_list_append PySem.F.type_list_append (fun a e => by cases e; exact ⟨_, hl2, rfl⟩) ?_
  refine callWith_args rfl (sp_cons ?_)
  refine wpAny_Constant_int ?_
  refine sp_nil ⟨⟨Keeper.machine, Looks.of_pure rfl, by decide⟩, ?_⟩
  refine append_at hl2 fun h₃ hs3 hl3 => ?_
  have hl2n : h₁.get? l = none := hln2
  have S3 := S1.but (S1.keeps kp2) hl2n (H' := h₃) fun a o na e => hs3.extBut a o na e
  clear hs3 hl3 hl2 hl2n hln2 S1 kp2
  -- if book['#'] != []
  refine x_cons (wpAny_If (wpAny_isTrue_Compare1 ?_))
  refine Subscript_ ?_
  refine wpAny_Name (wpAny_loadName_cell rfl rfl rfl S3.b ?_) (by decide)
  refine Calls.Constant_str ?_
  refine frozen_item (X.keeps S3.F.keep) (T.keeps S3.F.keep) (show A.depth + 1 + 2 < recursionLimit by omega) hsm (Z.keeps S3.F.keep) (fun r tk' hr => by rw [hnone] at hr; cases hr) fun _ l2 h₄ tk₄ kp4 hl4 hln4 => ?_
  refine wpAny_List_spliced (sp_nil ⟨by decide, ?_⟩)
  refine ke_ne_ints (xs := []) (ys := []) ⟨_, Heap.get?_push_of_some _ hl4, rfl, _, rfl⟩ ⟨_, Heap.get?_push_size _ rfl, rfl, _, rfl⟩ .nil .nil (by rw [units_deeper]; omega) ?_
  refine wpAny_truthy_bool ?_
  show wpAny _ _ (execs [] _) _ _ _
  refine x_nil ?_
  have S5 := S3.keeps (H' := h₄.push { cls := .type "list", data := .seq ([] : List Value).toArray }) fun a o e => Heap.get?_push_of_some _ (kp4 a o e)
  dsimp only
  generalize h₄.push { cls := .type "list", data := .seq ([] : List Value).toArray } = h₅ at S5 ⊢
  generalize tk₄ = tk5
  clear S3 kp4 hl4 hln4
  -- found
  refine x_cons (x_assign_comp (h₀ := h₅) rfl rfl (by decide) rfl (by decide) (by intro x; rfl) ?_)
  refine rname_L S5.F.ns rfl ?_ rfl rfl
  have hlp5 : h₅.IsList lp pv.toArray := hlp.at fun o e => S5.F.keep lp o e
  refine wpAny_pyIter_list hlp5 ?_
  have hpvl := StrsAre.length' hpv
  refine ⟨h₅.objs.size, _, _, _, _, _, fun C D i ys H => LsAre H [C, D, h₅.objs.size, L, L + 4, L + 5] ys ((probes.map fun p => sortF (askF (rows.map rowData) (cramF p n))).take i), rfl,
    Src.list (hhd _) _ h₅.objs.size lp (by obtain ⟨o, e, _⟩ := hlp5; exact Nat.ne_of_lt (Heap.lt_size e)) pv.toArray, ?n, ?st, ?fp, ?k0, ?wr, ?sz, ?ok, ?fin⟩
  case n => rw [List.size_toArray]; omega
  case st => exact ⟨⟨_, Heap.get?_push_size _ rfl, rfl, rfl⟩, hlp5.push _⟩
  case fp =>
    intro x hx
    simp only [List.mem_cons, List.not_mem_nil, or_false] at hx
    rw [Heap.size_push]
    rcases hx with rfl | rfl
    · exact Nat.lt_succ_self _
    · obtain ⟨o, e, _⟩ := hlp5; exact Nat.lt_succ_of_lt (Heap.lt_size e)
  case k0 => exact fun b o e => Heap.get?_push_of_some _ e
  case wr => intro x hx; rw [List.mem_singleton.mp hx]; exact Heap.get?_none_of_le (Nat.le_refl _)
  case sz => rw [Heap.size_push]; exact Nat.le_succ _
  case ok =>
    refine ⟨fun C D => .nil, fun C D i ys h h' x k => x.keeps fun b o nb e => k b o (fun ea => nb (by simp [ea])) (fun ea => nb (by simp [ea])) (fun ea => nb (by simp [List.mem_singleton.mp ea])) e, ?_⟩
    intro C D i v ys m H tkH E' hi hp hJ F hD hCD hDo hwo
    obtain ⟨pr, pt, hpi, rfl⟩ := StrsAre.get' hpv (i := i) (v := v) (by rw [← List.getElem?_toArray]; exact hp)
    have hpm : pr ∈ probes := List.mem_of_getElem? hpi
    refine wpAny_assign_Name (store_keeps F rfl rfl fun h6 tk6 F6 kp6 => ?_)
    replace F6 : Fr h₅ C h6 _ := F6
    replace kp6 : ∀ b o, b ≠ C → H.get? b = some o → h6.get? b = some o := kp6
    refine wpAny_tests_nil ?_
    rw [if_pos rfl]
    have S6 := S5.keeps F6.keep
    refine x_call_name (x_builtin (X.keeps S6.F.keep) (T.keeps S6.F.keep) (by k_is) (by boot_fast) (by decide) ?_ rfl rfl rfl rfl)
    refine callWith_args rfl (sp_cons ?_)
    show wpAny _ _ (PySem.eval (PySem.Expr.Subscript _ _ _) _) _ _ _
    refine Subscript_ ?_
    refine x_cell S6.b ?_ rfl rfl rfl
    refine x_call_name (x_global (X.keeps S6.F.keep) (T.keeps S6.F.keep) (by k_is) ?_ rfl rfl rfl)
    refine callWith_args rfl (sp_cons ?_)
    refine rname_L F6.ns (show _ = some (Value.str pr pt) from rfl) ?_ rfl rfl
    refine sp_cons ?_
    refine x_cell S6.w ?_ rfl rfl rfl
    refine sp_nil ⟨⟨Keeper.frame, (Looks.ld ((X.keeps S6.F.keep) 39 _ (by k_is))).andThen .now, by decide⟩, ?_⟩
    refine cram_spec (X.keeps S6.F.keep) (T.keeps S6.F.keep) (show A.depth + 1 + 2 < recursionLimit by omega) (by rw [units_deeper]; omega) (hhd _) (hpl _ hpm) fun h7 tk7 tr kp7 => ?_
    have S7 := S6.keeps kp7
    have ex6 : ∀ x ∈ [C, D, h₅.objs.size, L, L + 4, L + 5], ∃ o, h6.get? x = some o := ex_cons (let ⟨o, _, _, e, _⟩ := F6.ns; ⟨o, e⟩) kp6 fun x hx => by
      rcases List.mem_cons.mp hx with rfl | hx
      · exact hDo
      · rcases List.mem_cons.mp hx with rfl | hx
        · exact hwo _ (List.mem_singleton.mpr rfl)
        · exact (S5.keeps F.keep).ex x hx
    refine frozen_ask (X.keeps S7.F.keep) (T.keeps S7.F.keep) (show A.depth + 1 + 2 < recursionLimit by omega) hsm (Z.keeps S7.F.keep) (lists.keeps S7.F.keep) fun a H2 tk2 vs e kp8 ha hvs => ?_
    have hal := G.ask (cramF pr n)
    refine sp_nil ⟨⟨Keeper.machine, Looks.of_pure rfl, by decide⟩, ?_⟩
    refine sorted_raw ⟨_, ha, rfl, _, rfl⟩ hvs (by rw [hvs.length]; omega) fun D' h9 vs' ns' e' kp9 hD' hDn hvs' hp' hs' => ?_
    have kpa : ∀ b o, h6.get? b = some o → h9.get? b = some o := fun b o e => kp9 b o (kp8 b o (kp7 b o e))
    have kpH : ∀ b o, b ≠ C → H.get? b = some o → h9.get? b = some o := fun b o nb e => kpa b o (kp6 b o nb e)
    have hD'b := fresh_bad (ex_keeps (fun b o e => kp8 b o (kp7 b o e)) ex6) hDn
    refine ⟨h9, _, _, rfl, ?_, F6.ns.at' fun o e => kpa C o e, kpH⟩
    rw [take_snoc (x := sortF (askF (rows.map rowData) (cramF pr n))) (by rw [List.getElem?_map, hpi]; rfl), ← sort_eq hp' hs']
    exact (hJ.keeps fun b o nb e => kpH b o (fun ea => nb (by simp [ea])) e).snoc hD'b hD' hvs'
  case fin =>
    intro C D h6 tk6 ys hD hC hDC ⟨mC, hnC⟩ hl hyl hJ kp
    have S6 := S5.keeps kp
    refine store_keeps S6.F rfl rfl fun h7 tk7 F7 kp7 => ?_
    replace F7 : Fr h L h7 _ := F7
    replace kp7 : ∀ b o, b ≠ L → h6.get? b = some o → h7.get? b = some o := kp7
    have S7 := S6.setL F7 kp7
    obtain ⟨oL, _, _, eL, _⟩ := S5.F.ns
    have hCL : C ≠ L := fun e => by rw [e, eL] at hC; cases hC
    have hDL : D ≠ L := fun e => by rw [e, eL] at hD; cases hD
    refine ⟨⟨mC, hnC.at' fun o e => kp7 C o hCL e⟩, fun h8 kp8 => ?_⟩
    have S8 := S5.but S7 hC kp8
    have hl8 := kp8 _ _ hDC (kp7 _ _ hDL hl)
    have found8 := hJ.weaken (h' := h8) (bad' := [L, L + 4, L + 5]) (fun x => sub3) fun b o nb e => kp8 b o (off6 nb).1 (kp7 b o (off6 nb).2.2.2.1 e)
    have hDb : D ∉ [L, L + 4, L + 5] := fresh_bad S5.ex hD
    have hyl8 : ys.length ≤ 60 := by rw [List.size_toArray] at hyl; omega
    rw [List.take_of_length_le (by rw [List.length_map, List.size_toArray]; omega)] at found8
    generalize hfound : probes.map (fun p => sortF (askF (rows.map rowData) (cramF p n))) = found at found8
    clear S7 S6 hJ hl kp kp7 kp8 F7 hnC hCL hDL hlp5 eL
    dsimp only
    clear S5 hC hD hDC hyl
    -- rows
    refine x_cons (x_assign (x_comp (h₀ := h8) rfl (by decide) rfl (by decide) (by intro x; rfl) ?_) rfl)
    refine meth0 rfl rfl ?_
    refine x_cell S8.b ?_ rfl rfl rfl
    have Z8 := Z.keeps S8.F.keep
    obtain ⟨hs8, tkf8, l28, hdx8, -⟩ := Z8.dict
    refine items_method (X.keeps S8.F.keep) Z8.book hdx8 rfl ?_
    refine callWith_none (kp := .machine) (Looks.of_pure rfl) (by decide) ?_
    refine items_call (X.keeps S8.F.keep) hsm Z8.book ?_
    refine items_iter (Heap.get?_push_size _ rfl) (Heap.get?_push_of_some _ Z8.book) ?_
    dsimp only
    have hI8 : h8.get? (h8.push { cls := .type "dict_items", data := .fields #[.ref b] }).objs.size = none := Heap.get?_none_of_le (by rw [Heap.size_push]; exact Nat.le_succ _)
    have hbI : b ≠ (h8.push { cls := .type "dict_items", data := .fields #[.ref b] }).objs.size := by rw [Heap.size_push]; exact Nat.ne_of_lt (Nat.lt_succ_of_lt (Heap.lt_size Z8.book))
    have hs2 : ∀ x o, h8.get? x = some o → ((h8.push { cls := .type "dict_items", data := .fields #[.ref b] }).push { cls := .type "dict_itemiterator", data := .fields #[.none, .bool false, .ref b, .int 0 0, .int ((rows.map (entryOf w)).toArray.size) 0, .int ep 0, .none, .none] }).get? x = some o := fun x o e => Heap.get?_push_of_some _ (Heap.get?_push_of_some _ e)
    have hz2 : ((h8.push { cls := .type "dict_items", data := .fields #[.ref b] }).push { cls := .type "dict_itemiterator", data := .fields #[.none, .bool false, .ref b, .int 0 0, .int ((rows.map (entryOf w)).toArray.size) 0, .int ep 0, .none, .none] }).objs.size = h8.objs.size + 2 := by rw [Heap.size_push, Heap.size_push]
    have hI2 : IsItemIter ((h8.push { cls := .type "dict_items", data := .fields #[.ref b] }).push { cls := .type "dict_itemiterator", data := .fields #[.none, .bool false, .ref b, .int 0 0, .int ((rows.map (entryOf w)).toArray.size) 0, .int ep 0, .none, .none] }) (h8.push { cls := .type "dict_items", data := .fields #[.ref b] }).objs.size b 0 (rows.map (entryOf w)).toArray.size ep .none .none := Heap.get?_push_size _ rfl
    generalize (h8.push { cls := .type "dict_items", data := .fields #[.ref b] }).push { cls := .type "dict_itemiterator", data := .fields #[.none, .bool false, .ref b, .int 0 0, .int ((rows.map (entryOf w)).toArray.size) 0, .int ep 0, .none, .none] } = h9 at hs2 hz2 hI2 ⊢
    generalize (h8.push { cls := .type "dict_items", data := .fields #[.ref b] }).objs.size = I at hI8 hbI hI2 ⊢
    refine ⟨I, _, _, _, _, _, fun C D i ys H => RwAre H [C, D, I, L, L + 4, L + 5] ys ((sdF (rows.map rowData)).take i), rfl,
      Src.items (hhd _) _ _ _ I b hbI dx (rows.map (entryOf w)).toArray ep #[some (.ref lf)], ?n, ?st, ?fp, hs2, ?wr, ?sz, ?ok, ?fin⟩
    case n => have := G.rlen; rw [List.length_map] at this; rw [List.size_toArray, List.length_map]; omega
    case st => exact ⟨⟨_, _, hI2⟩, hs2 _ _ Z8.book⟩
    case fp =>
      intro x hx
      simp only [List.mem_cons, List.not_mem_nil, or_false] at hx
      rcases hx with rfl | rfl
      · exact Heap.lt_size hI2
      · exact Heap.lt_size (hs2 _ _ Z8.book)
    case wr => intro x hx; rw [List.mem_singleton.mp hx]; exact hI8
    case sz => rw [hz2]; exact Nat.le_add_right _ _
    case ok =>
      refine ⟨fun C D => .nil, fun C D i ys h h' x k => x.keeps fun b o nb e => k b o (off6 nb).1 (off6 nb).2.1 (fun ea => (off6 nb).2.2.1 (List.mem_singleton.mp ea)) e, ?_⟩
      rintro C D i v ys m H tkH E' hi ⟨Tp, e, hei, rfl, hTp⟩ hJ F hD hCD hDo hwo
      obtain ⟨r, hri, rfl⟩ : ∃ r, rows[i]? = some r ∧ entryOf w r = e := by
        rw [List.getElem?_toArray, List.getElem?_map] at hei
        cases er : rows[i]? with
        | none => rw [er] at hei; cases hei
        | some r => rw [er] at hei; cases hei; exact ⟨r, rfl, rfl⟩
      have hrm : r ∈ rows := List.mem_of_getElem? hri
      refine assign_pair (hhd _) hTp F rfl rfl rfl fun h10 tk10 F10 kp10 => ?_
      replace F10 : Fr h8 C h10 _ := F10
      replace kp10 : ∀ b o, b ≠ C → H.get? b = some o → h10.get? b = some o := kp10
      refine wpAny_tests_nil ?_
      rw [if_pos rfl]
      have S10 := S8.keeps F10.keep
      have ex10 : ∀ x ∈ [C, D, I, L, L + 4, L + 5], ∃ o, h10.get? x = some o := ex_cons (let ⟨o, _, _, e, _⟩ := F10.ns; ⟨o, e⟩) kp10 fun x hx => by
        rcases List.mem_cons.mp hx with rfl | hx
        · exact hDo
        · rcases List.mem_cons.mp hx with rfl | hx
          · exact hwo _ (List.mem_singleton.mpr rfl)
          · exact (S8.keeps F.keep).ex x hx
      refine wpAny_List_spliced (sp_cons ?_)
      refine rname_L F10.ns (show _ = some (Value.str r.key r.tok) from rfl) ?_ rfl rfl
      refine sp_cons ?_
      refine x_call_name (x_builtin (X.keeps S10.F.keep) (T.keeps S10.F.keep) (by k_is) (by boot_fast) (by decide) ?_ rfl rfl rfl rfl)
      refine callWith_args rfl (sp_cons ?_)
      refine rname_L F10.ns (show _ = some (Value.ref r.addr) from rfl) ?_ rfl rfl
      refine sp_nil ⟨⟨Keeper.machine, Looks.of_pure rfl, by decide⟩, ?_⟩
      have hra := (lists.keeps S10.F.keep).at_ r hrm
      have hrd : rowData r ∈ rows.map rowData := List.mem_map_of_mem hrm
      have hpl := G.plen _ hrd
      refine sorted_raw ⟨_, hra.1, rfl, _, rfl⟩ hra.2 (by rw [hra.2.length]; exact Nat.lt_of_lt_of_le hpl (by decide)) fun D' h11 vs' ns' e' kp11 hD' hDn hvs' hp' hs' => ?_
      refine sp_nil ⟨(by show 2 ≤ sizeLine; decide), ?_⟩
      have hD'b := fresh_bad ex10 hDn
      have hA'b := fresh_bad (x := h11.objs.size) (ex_keeps kp11 ex10) (Heap.get?_none_of_le (Nat.le_refl _))
      refine ⟨_, _, _, rfl, ?_, F10.ns.at' fun o e => Heap.get?_push_of_some _ (kp11 C o e), fun b o nb e => Heap.get?_push_of_some _ (kp11 b o (kp10 b o nb e))⟩
      rw [take_snoc (x := (r.key, sortF r.places)) (by unfold sdF; rw [List.getElem?_map, List.getElem?_map, hri]; rfl)]
      refine (hJ.keeps fun b o nb e => Heap.get?_push_of_some _ (kp11 b o (kp10 b o (off6 nb).1 e))).snoc hA'b hD'b (Heap.get?_push_size _ rfl) (Heap.get?_push_of_some _ hD') ?_
      rw [← sort_eq hp' hs']
      exact hvs'
    case fin =>
      intro C D2 h12 tk12 ys2 hD2 hC hDC hnC hl2 hyl2 hJ kp12 h13 kp13 hl13 kp813
      have S13 := S8.keeps kp813
      refine wpAny_storeName_cell (c := L + 5) rfl rfl rfl S13.r fun h14 hr14 hs14 => ?_
      replace hs14 : ∀ b o, b ≠ L + 5 → h13.get? b = some o → h14.get? b = some o := fun b o nb e => hs14.extBut b o nb e
      have S14 := S13.setR hr14 hs14
      have hD2b : D2 ∉ [L, L + 4, L + 5] := fresh_bad S8.ex hD2
      have hl14 := hs14 _ _ (fun ea => hD2b (by simp [ea])) hl13
      have hf14 := hs14 _ _ (fun ea => hDb (by simp [ea])) (kp813 _ _ hl8)
      have found14' := found8.keeps (h' := h14) fun b o nb e => hs14 b o (fun ea => nb (by simp [ea])) (kp813 b o e)
      have rows14' := hJ.weaken (h' := h14) (bad' := [L, L + 4, L + 5]) (fun x => sub3) fun b o nb e => hs14 b o (off6 nb).2.2.2.2.2 (kp13 b o (off6 nb).1 e)
      rw [List.take_of_length_le (by rw [sdF_len, List.length_map, List.size_toArray, List.length_map]; exact Nat.le_refl _)] at rows14'
      have hlen2 : ys2.length < 60 := by rw [RwAre.length rows14', sdF_len]; exact G.rlen
      clear S13 hJ kp12 kp13 hl13 kp813 hl2
      have rows14 := rows14'
      have found14 := found14'
      clear rows14' found14' hs14 hr14 hnC hDC
      dsimp only
      -- the loop over the rows
      have mf : ∃ m, RS h L h14 m lt b n tn none (some (.ref D2)) ∧ m "found" = some (.ref D) ∧ m "probes" = some (.ref lp) := ⟨_, S14, rfl, rfl⟩
      clear S14 S8 Z8 hdx8
      obtain ⟨m14, S14, mf14, mp14⟩ := mf
      refine x_cons (for_list (l := D2) (its := ys2.toArray) (hhd _) (fun I s => fun s' => ∃ H tks m vk, s' = ⟨H, g, d, tks, os⟩ ∧ RS h L H m lt b n tn vk (some (.ref D2)) ∧ m "found" = some (.ref D) ∧ m "probes" = some (.ref lp) ∧ h14.get? I = none ∧
        (∀ a o, a ≠ L → a ≠ L + 4 → h14.get? a = some o → H.get? a = some o)) ?hiter ?stable ?turn ?done ?hs)
      case hs => intro x; rfl
      case hiter =>
        refine x_cell S14.r ⟨rfl, ⟨_, hl14, rfl, _, rfl⟩, fun I h' kp hI => ?_⟩ rfl rfl rfl
        exact ⟨h', _, m14, none, rfl, S14.keeps kp, mf14, mp14, by rw [hI]; exact Heap.get?_none_of_le (Nat.le_refl _), fun a o _ _ e => kp a o e⟩
      case stable =>
        rintro I i s h' tk' ⟨H, tks, m, vk, rfl, S, mf, mp, hI, k⟩ _ kp
        exact ⟨h', tk', m, vk, rfl, S14.but S hI kp, mf, mp, hI, fun a o na nb e => kp a o (fun ea => by rw [ea, hI] at e; cases e) (k a o na nb e)⟩
      case turn =>
        rintro I i v s E' hv ⟨H, tks, m, vk, rfl, S, mf, mp, hI, k⟩ lI ⟨oI, hoI, _⟩ hl
        rw [List.getElem?_toArray] at hv
        have rowsH := rows14.keeps (h' := H) fun x o nb e => k x o (fun ea => nb (by simp [ea])) (fun ea => nb (by simp [ea])) e
        obtain ⟨a, key, kt, la, e1, e2, vs, ns, rfl, hdi, ha, hla, hvs⟩ := rowsH.get hv
        have hda : (key, ns) ∈ sdF (rows.map rowData) := List.mem_of_getElem? hdi
        have hIL : I ≠ L ∧ I ≠ L + 4 := ⟨(fun ea => by obtain ⟨o, _, _, e, _⟩ := S14.F.ns; rw [ea, e] at hI; cases hI), (fun ea => by obtain ⟨o, e, _⟩ := S14.k; rw [ea, e] at hI; cases hI)⟩
        have hLn : ∀ {x : Addr} {o : Obj} {ys e}, o = listOf ys e → H.get? x = some o → x ≠ L ∧ x ≠ L + 4 := fun {x o ys e} eo ex => by
          subst eo
          refine ⟨fun ea => ?_, fun ea => ?_⟩
          · obtain ⟨o, es, ep, e, hd, _⟩ := S.F.ns; rw [ea, e] at ex; cases ex; cases hd
          · obtain ⟨o, e, hd⟩ := S.k; rw [ea, e] at ex; cases ex; cases hd
        have hlaL := hLn rfl hla
        refine assign_pair_list (hhd _) ⟨_, ha, rfl, _, rfl⟩ rfl fun h15 kp15 => ?_
        have S15 := S.keeps kp15
        refine wpAny_assign_Name (wpAny_storeName_cell (c := L + 4) rfl rfl rfl S15.k fun h16 hk16 hs16 => ?_)
        replace hs16 : ∀ b o, b ≠ L + 4 → h15.get? b = some o → h16.get? b = some o := fun b o nb e => hs16.extBut b o nb e
        have S16 := S15.setK hk16 hs16
        refine wpAny_assign_Name (store_keeps S16.F rfl rfl fun h17 tk17 F17 kp17 => ?_)
        replace F17 : Fr h L h17 _ := F17
        replace kp17 : ∀ b o, b ≠ L → h16.get? b = some o → h17.get? b = some o := kp17
        have S17 := S16.setL F17 kp17
        have k17 : ∀ x o, x ≠ L → x ≠ L + 4 → H.get? x = some o → h17.get? x = some o := fun x o n1 n2 e => kp17 x o n1 (hs16 x o n2 (kp15 x o e))
        have hla17 := k17 _ _ hlaL.1 hlaL.2 hla
        clear S15 S16 kp15 hs16 hk16 kp17 F17
        refine x_cons (wpAny_If (wpAny_isTrue_BoolOp (wpAny_allTrue_Or_cons (wpAny_isTrue_Compare1 ?_))))
        refine rname_L S17.F.ns (show _ = some (Value.ref la) from rfl) ?_ rfl rfl
        refine wpAny_List_spliced (sp_nil ⟨by decide, ?_⟩)
        refine ke_eq_ints (ys := []) ⟨_, Heap.get?_push_of_some _ hla17, rfl, _, rfl⟩ ⟨_, Heap.get?_push_size _ rfl, rfl, _, rfl⟩ hvs .nil (by rw [units_deeper]; omega) ?_
        refine wpAny_truthy_bool ?_
        rw [decide_eq_false (G.ne _ hda), if_neg (by decide)]
        have S18 := S17.keeps (H' := h17.push { cls := .type "list", data := .seq ([] : List Value).toArray }) fun a o e => Heap.get?_push_of_some _ e
        have k18 : ∀ x o, x ≠ L → x ≠ L + 4 → H.get? x = some o → (h17.push { cls := .type "list", data := .seq ([] : List Value).toArray }).get? x = some o := fun x o n1 n2 e => Heap.get?_push_of_some _ (k17 x o n1 n2 e)
        dsimp only
        generalize h17.push { cls := .type "list", data := .seq ([] : List Value).toArray } = h18 at S18 k18 ⊢
        have hla18 := k18 _ _ hlaL.1 hlaL.2 hla
        clear S17 k17 hla17
        refine wpAny_allTrue_Or_cons (wpAny_isTrue_Compare1 ?_)
        refine rname_L S18.F.ns (show _ = some (Value.ref la) from rfl) ?_ rfl rfl
        refine x_comp (h₀ := h18) rfl (by decide) rfl (by decide) (by intro x; rfl) ?_
        refine x_call_name (x_builtin (X.keeps S18.F.keep) (T.keeps S18.F.keep) (by k_is) (by boot_fast) (by decide) ?_ rfl rfl rfl rfl)
        refine callWith_args rfl (sp_cons ?_)
        refine x_call_name (x_builtin (X.keeps S18.F.keep) (T.keeps S18.F.keep) (by k_is) (by boot_fast) (by decide) ?_ rfl rfl rfl rfl)
        refine callWith_args rfl (sp_cons ?_)
        refine x_cell S18.t ?_ rfl rfl rfl
        refine sp_nil ⟨⟨Keeper.machine, Looks.of_pure rfl, by decide⟩, ?_⟩
        have htvl := StrsAre.length' htv
        have hlt18 : h18.IsList lt tv.toArray := hlt.at fun o e => S18.F.keep lt o e
        refine len_list hlt18 (by rw [List.size_toArray]; omega) ?_
        refine sp_nil ⟨⟨Keeper.machine, Looks.of_pure rfl, by decide⟩, ?_⟩
        rw [List.size_toArray, htvl]
        refine range_raw fun r h19 tk19 u v kp19 sz19 hr19 => ?_
        refine range_iter (by omega) hr19 fun I2 h20 kp20 hI2n hI2l sz20 hit20 => ?_
        dsimp only at kp19 sz19 kp20 hI2n sz20 ⊢
        have hI218 : h18.get? I2 = none := by
          cases e : h18.get? I2 with
          | none => rfl
          | some o => rw [kp19 _ _ e] at hI2n; cases hI2n
        have kp20' : ∀ b o, h18.get? b = some o → h20.get? b = some o := fun b o e => kp20 b o (kp19 b o e)
        refine ⟨I2, _, _, _, _, _, fun C D i ys H => IntsAre ys (((List.range i).filter fun k => leftF key (texts.getD k "") n).map Int.ofNat), rfl, Src.range (hhd _) _ _ I2 texts.length, by omega, hit20, ?fp, kp20', ?wr, Nat.le_trans sz19 sz20, ?ok, ?fin⟩
        case fp => intro x hx; rw [List.mem_singleton.mp hx]; exact hI2l
        case wr => intro x hx; rw [List.mem_singleton.mp hx]; exact hI218
        case ok =>
          refine ⟨fun C D => .nil, fun C D i ys h h' x k => x, ?_⟩
          rintro C D i v ys m2 H2 tkH E2 hi ⟨t2, rfl⟩ hJ F hD hCD hDo hwo
          refine wpAny_assign_Name (store_keeps F rfl rfl fun h21 tk21 F21 kp21 => ?_)
          replace F21 : Fr h18 C h21 _ := F21
          replace kp21 : ∀ b o, b ≠ C → H2.get? b = some o → h21.get? b = some o := kp21
          have S21 := S18.keeps F21.keep
          have hlt21 : h21.IsList lt tv.toArray := hlt.at fun o e => S21.F.keep lt o e
          obtain ⟨tt, hti⟩ : ∃ tt, tv[i]? = some tt := ⟨tv[i]'(by omega), List.getElem?_eq_getElem (by omega)⟩
          obtain ⟨tx, ttk, htx, rfl⟩ := StrsAre.get' htv hti
          refine wpAny_tests_one (wpAny_isTrue_value ?_)
          refine x_call_name (x_global (X.keeps S21.F.keep) (T.keeps S21.F.keep) (by k_is) ?_ rfl rfl rfl)
          refine callWith_args rfl (sp_cons ?_)
          refine x_cell S21.k ?_ rfl rfl rfl
          refine sp_cons ?_
          show wpAny _ _ (PySem.eval (PySem.Expr.Subscript _ _ _) _) _ _ _
          refine Subscript_ ?_
          refine x_cell S21.t ?_ rfl rfl rfl
          refine rname_L F21.ns (show _ = some (Value.int (i : Int) t2) from rfl) ?_ rfl rfl
          refine item_listL hlt21 (by omega) (by omega) (by rw [Int.toNat_natCast]; exact hti) ?_
          refine sp_cons ?_
          refine x_cell S21.w ?_ rfl rfl rfl
          refine sp_nil ⟨⟨Keeper.frame, (Looks.ld ((X.keeps S21.F.keep) 83 _ (by k_is))).andThen .now, by decide⟩, ?_⟩
          refine left_spec (X.keeps S21.F.keep) (T.keeps S21.F.keep) (show A.depth + 1 + 2 < recursionLimit by omega) (by rw [units_deeper]; omega) (hhd _) (htl _ (List.mem_of_getElem? htx)) (G.klenS _ hda) fun h22 tk22 kp22 => ?_
          refine wpAny_truthy_bool ?_
          have egt : texts.getD i "" = tx := by rw [List.getD_eq_getElem?_getD, htx]; rfl
          have hr : ((List.range (i + 1)).filter fun k => leftF key (texts.getD k "") n) = ((List.range i).filter fun k => leftF key (texts.getD k "") n) ++ if leftF key tx n then [i] else [] := by
            rw [List.range_succ, List.filter_append, List.filter_cons, egt]; simp
          cases hlf : leftF key tx n with
          | true =>
            rw [if_pos rfl]
            have F22 := F21.keeps kp22
            refine rname_L F22.ns (show _ = some (Value.int (i : Int) t2) from rfl) ?_ rfl rfl
            refine ⟨h22, _, _, rfl, ?_, F22.ns, fun b o nb e => kp22 b o (kp21 b o nb e)⟩
            rw [hr, hlf, if_pos rfl, List.map_append]
            exact hJ.append (.cons _ t2 .nil)
          | false =>
            rw [if_neg (by decide)]
            refine ⟨h22, _, _, rfl, ?_, (F21.keeps kp22).ns, fun b o nb e => kp22 b o (kp21 b o nb e)⟩
            rw [hr, hlf, if_neg (by decide), List.append_nil]
            exact hJ
        case fin =>
          intro C D3 h23 tk23 ys3 hD3 hC3 hDC3 hnC3 hl3 hyl3 hJ3 kp23 h24 kp24 hl24 kp1824
          have e := (G.eq _ hda).symm
          dsimp only at e
          rw [e] at hJ3
          refine ke_ne_ints ⟨_, kp1824 _ _ hla18, rfl, _, rfl⟩ ⟨_, hl24, rfl, _, rfl⟩ hvs hJ3 (by rw [units_deeper]; omega) ?_
          refine wpAny_truthy_bool ?_
          rw [decide_eq_true rfl, if_neg (by decide)]
          refine wpAny_allTrue_Or_nil ?_
          rw [if_neg (by decide)]
          refine x_nil (x_nil ⟨⟨h24, _, _, _, rfl, S18.keeps kp1824, mf, mp, hI, fun x o na nb e => kp1824 x o (k18 x o na nb (k x o na nb e))⟩, fun o e => kp1824 I o (k18 I o hIL.1 hIL.2 e), ?_⟩)
          obtain ⟨o, e, hc, hd⟩ := hl
          have := hLn (x := D2) (o := lst ys2) rfl (k _ _ (fun ea => hD2b (by simp [ea])) (fun ea => hD2b (by simp [ea])) hl14)
          exact ⟨o, kp1824 _ _ (k18 _ _ this.1 this.2 e), hc, hd⟩
      case done =>
        rintro I s ⟨H, tks, m, vk, rfl, S, mf, mp, hI, k⟩
        have hkb : ∀ x o, x ∉ [L, L + 4, L + 5] → h14.get? x = some o → H.get? x = some o := fun x o nb e => k x o (fun ea => nb (by simp [ea])) (fun ea => nb (by simp [ea])) e
        have rowsH := rows14.keeps hkb
        have foundH := found14.keeps hkb
        have hlH := hkb D2 _ hD2b hl14
        have hfH := hkb D _ hDb hf14
        clear hkb k hI rows14 found14 hl14 hf14 S14 mf14 mp14
        -- firsts
        refine x_cons (x_assign_comp (h₀ := H) rfl rfl (by decide) rfl (by decide) (by intro x; rfl) ?_)
        refine x_cell S.r ?_ rfl rfl rfl
        refine over_list (s := ⟨H, g, d, tks, os⟩) (hhd _) ⟨_, hlH, rfl, _, rfl⟩ (by rw [List.size_toArray]; omega) (fun _ _ _ i ys _ => IntsAre ys (((sdF (rows.map rowData)).map fun r : Str × List Int => r.2.headD 0).take i)) fun I h₂ kp2 hIn => ⟨⟨fun C D => .nil, fun C D i ys h h' x k => x, ?_⟩, ?_⟩
        · intro C D i v ys m2 H2 tkH E2 hi hv hJ F hD hCD hDo hwo
          rw [List.getElem?_toArray] at hv
          obtain ⟨a, key, kt, la, e1, e2, vs, ns, rfl, hdi, ha, hla, hvs⟩ := rowsH.get hv
          have hda : (key, ns) ∈ sdF (rows.map rowData) := List.mem_of_getElem? hdi
          refine assign_pair_list_L (hhd _) ⟨_, F.keep _ _ ha, rfl, _, rfl⟩ F rfl rfl rfl fun h3 tk3 F3 kp3 => ?_
          replace F3 : Fr H C h3 _ := F3
          replace kp3 : ∀ b o, b ≠ C → H2.get? b = some o → h3.get? b = some o := kp3
          refine wpAny_tests_nil ?_
          rw [if_pos rfl]
          refine Subscript_ ?_
          refine rname_L F3.ns (show _ = some (Value.ref la) from rfl) ?_ rfl rfl
          refine wpAny_Constant_int ?_
          obtain ⟨x, xt, vs', ns', rfl, rfl⟩ : ∃ x xt vs' ns', vs = Value.int x xt :: vs' ∧ ns = x :: ns' := by
            cases hvs with
            | nil => exact absurd rfl (G.ne _ hda)
            | cons x xt r => exact ⟨_, _, _, _, rfl, rfl⟩
          refine item_listL (s := ⟨h3, _, _, _, _⟩) ⟨_, F3.keep _ _ hla, rfl, _, rfl⟩ (by decide) (by decide) (show _ = some (Value.int x xt) from rfl) ?_
          refine ⟨h3, _, _, rfl, ?_, F3.ns, kp3⟩
          rw [take_snoc (x := x) (by rw [List.getElem?_map, hdi]; rfl)]
          exact hJ.append (.cons _ xt .nil)
        intro C D3 h3 tk3 ys3 hD3 hC3 hDC3 ⟨mC, hnC⟩ hl3 hyl3 hJ3 kp3
        rw [List.size_toArray, List.take_of_length_le (by rw [List.length_map, RwAre.length rowsH]; exact Nat.le_refl _)] at hJ3
        have S3 := S.keeps kp3
        refine store_keeps S3.F rfl rfl fun h4 tk4 F4 kp4 => ?_
        replace F4 : Fr h L h4 _ := F4
        replace kp4 : ∀ b o, b ≠ L → h3.get? b = some o → h4.get? b = some o := kp4
        have S4 := S3.setL F4 kp4
        have hC3L : C ≠ L ∧ D3 ≠ L := by
          obtain ⟨o, _, _, e, _⟩ := S.F.ns
          exact ⟨(fun ea => by rw [ea] at hC3; rw [e] at hC3; cases hC3), (fun ea => by rw [ea] at hD3; rw [e] at hD3; cases hD3)⟩
        refine ⟨⟨mC, hnC.at' fun o e => kp4 C o hC3L.1 e⟩, fun h5 kp5 => ?_⟩
        have S5 := S.but S4 hC3 kp5
        have hne3 : ∀ x o, H.get? x = some o → x ≠ C := fun x o e ea => by rw [ea] at e; rw [e] at hC3; cases hC3
        have k5 : ∀ x o, x ∉ [L, L + 4, L + 5] → H.get? x = some o → h5.get? x = some o := fun x o nb e => kp5 x o (hne3 x o e) (kp4 x o (fun ea => nb (by simp [ea])) (kp3 x o e))
        have rows5 := rowsH.keeps k5
        have found5 := foundH.keeps k5
        have hl5 := k5 D2 _ hD2b hlH
        have hf5 := k5 D _ hDb hfH
        have hfi5 := kp5 _ _ hDC3 (kp4 _ _ hC3L.2 hl3)
        have mp5 : (fun z => if z = ("firsts" : Str) then some (Value.ref D3) else m z) "found" = some (.ref D) := mf
        have mq5 : (fun z => if z = ("firsts" : Str) then some (Value.ref D3) else m z) "probes" = some (.ref lp) := mp
        dsimp only
        clear S S3 S4 kp3 kp4 kp5 F4 k5 rowsH foundH hlH hfH hl3 hnC hC3L hne3 hC3 hD3
        -- the sums
        refine x_cons (wpAny_If (wpAny_isTrue_BoolOp (wpAny_allTrue_Or_cons (wpAny_isTrue_Compare1 ?_))))
        refine rname_L S5.F.ns (show _ = some (Value.ref D3) from rfl) ?_ rfl rfl
        refine x_call_name (x_builtin (X.keeps S5.F.keep) (T.keeps S5.F.keep) (by k_is) (by boot_fast) (by decide) ?_ rfl rfl rfl rfl)
        refine callWith_args rfl (sp_cons ?_)
        refine rname_L S5.F.ns (show _ = some (Value.ref D3) from rfl) ?_ rfl rfl
        refine sp_nil ⟨⟨Keeper.machine, Looks.of_pure rfl, by decide⟩, ?_⟩
        refine sorted_raw (s := ⟨h5, g, d, tk4, os⟩) ⟨_, hfi5, rfl, _, rfl⟩ hJ3 (by rw [List.size_toArray] at hyl3; omega) fun D4 h6 vs4 ns4 e4 kp6 hD4 hD4n hvs4 hp4 hs4 => ?_
        dsimp only at kp6 hD4n ⊢
        refine ke_ne_ints ⟨_, kp6 _ _ hfi5, rfl, _, rfl⟩ ⟨_, hD4, rfl, _, rfl⟩ hJ3 hvs4 (by rw [units_deeper]; omega) ?_
        refine wpAny_truthy_bool ?_
        rw [decide_eq_true (perm_sorted_eq hp4 hs4 G.firsts).symm, if_neg (by decide)]
        have S6 := S5.keeps kp6
        have rows6 := rows5.keeps fun x o _ e => kp6 x o e
        have found6 := found5.keeps fun x o _ e => kp6 x o e
        have hl6 := kp6 _ _ hl5
        have hf6 := kp6 _ _ hf5
        clear S5 rows5 found5 hl5 hf5 hfi5 hD4 hD4n hvs4 hp4 hs4 kp6
        refine wpAny_allTrue_Or_cons (wpAny_isTrue_Compare1 ?_)
        refine x_call_name (x_builtin (X.keeps S6.F.keep) (T.keeps S6.F.keep) (by k_is) (by boot_fast) (by decide) ?_ rfl rfl rfl rfl)
        refine callWith_args rfl (sp_cons ?_)
        refine x_comp (h₀ := h6) rfl (by decide) rfl (by decide) (by intro x; rfl) ?_
        refine x_cell S6.r ?_ rfl rfl rfl
        refine over_list (s := ⟨h6, g, d, tk4, os⟩) (hhd _) ⟨_, hl6, rfl, _, rfl⟩ (by rw [List.size_toArray]; omega) (fun _ _ _ i ys _ => IntsAre ys (((sdF (rows.map rowData)).map fun r : Str × List Int => (r.2.length : Int)).take i)) fun I h₂ kp2 hIn => ⟨⟨fun C D => .nil, fun C D i ys h h' x k => x, ?_⟩, ?_⟩
        · intro C D i v ys m2 H2 tkH E2 hi hv hJ F hD hCD hDo hwo
          rw [List.getElem?_toArray] at hv
          obtain ⟨a, key, kt, la, e1, e2, vs, ns, rfl, hdi, ha, hla, hvs⟩ := rows6.get hv
          have hda : (key, ns) ∈ sdF (rows.map rowData) := List.mem_of_getElem? hdi
          refine assign_pair_list_L (hhd _) ⟨_, F.keep _ _ ha, rfl, _, rfl⟩ F rfl rfl rfl fun h3 tk3 F3 kp3 => ?_
          replace F3 : Fr h6 C h3 _ := F3
          replace kp3 : ∀ b o, b ≠ C → H2.get? b = some o → h3.get? b = some o := kp3
          refine wpAny_tests_nil ?_
          rw [if_pos rfl]
          have S9 := S6.keeps F3.keep
          refine x_call_name (x_builtin (X.keeps S9.F.keep) (T.keeps S9.F.keep) (by k_is) (by boot_fast) (by decide) ?_ rfl rfl rfl rfl)
          refine callWith_args rfl (sp_cons ?_)
          refine rname_L F3.ns (show _ = some (Value.ref la) from rfl) ?_ rfl rfl
          refine sp_nil ⟨⟨Keeper.machine, Looks.of_pure rfl, by decide⟩, ?_⟩
          have hpl2 := G.plenS _ hda
          have hvl := hvs.length
          dsimp only at hpl2
          refine len_list ⟨_, F3.keep _ _ hla, rfl, _, rfl⟩ (by rw [List.size_toArray]; omega) ?_
          refine ⟨h3, _, _, rfl, ?_, F3.ns, kp3⟩
          rw [take_snoc (x := (ns.length : Int)) (by rw [List.getElem?_map, hdi]; rfl), List.size_toArray, hvl]
          exact hJ.append (.cons _ _ .nil)
        intro C D5 h7 tk7 ys5 hD5 hC5 hDC5 hnC5 hl7 hyl5 hJ5 kp7 h8' kp8' hl8' kp68
        rw [List.size_toArray, List.take_of_length_le (by rw [List.length_map, RwAre.length rows6]; exact Nat.le_refl _)] at hJ5
        refine sp_nil ⟨⟨Keeper.machine, Looks.of_pure rfl, by decide⟩, ?_⟩
        refine sum_raw (hhd _) ⟨_, hl8', rfl, _, rfl⟩ hJ5 fun h9' tk9 tt9 kp9 => ?_
        dsimp only at kp9 ⊢
        have S9 := S6.keeps fun x o e => kp9 x o (kp68 x o e)
        refine x_call_name (x_builtin (X.keeps S9.F.keep) (T.keeps S9.F.keep) (by k_is) (by boot_fast) (by decide) ?_ rfl rfl rfl rfl)
        refine callWith_args rfl (sp_cons ?_)
        refine x_cell S9.t ?_ rfl rfl rfl
        refine sp_nil ⟨⟨Keeper.machine, Looks.of_pure rfl, by decide⟩, ?_⟩
        have htvl := StrsAre.length' htv
        refine len_list (hlt.at fun o e => S9.F.keep lt o e) (by rw [List.size_toArray]; omega) ?_
        refine PyProof.Rows.ne_int ?_
        refine wpAny_truthy_bool ?_
        rw [G.sum, List.size_toArray, htvl, show ((texts.length : Int) != (texts.length : Int)) = false by simp, if_neg (by decide)]
        refine wpAny_allTrue_Or_nil ?_
        rw [if_neg (by decide)]
        refine x_nil ?_
        have rows9 := rows6.keeps (h' := h9') fun x o _ e => kp9 x o (kp68 x o e)
        have found9 := found6.keeps (h' := h9') fun x o _ e => kp9 x o (kp68 x o e)
        have hl9 := kp9 _ _ (kp68 _ _ hl6)
        have hf9 := kp9 _ _ (kp68 _ _ hf6)
        dsimp only
        clear S6 rows6 found6 hl6 hf6 hl8' hl7 kp9 kp68 kp8' kp7 hJ5
        -- the answer
        refine x_cons (x_ret (wpAny_Compare1 ?_))
        refine rname_L S9.F.ns mp5 ?_ rfl rfl
        refine x_compC (h₀ := h9') rfl (fun _ => rfl) (fun _ => rfl) rfl (by decide) (by intro x; rfl) ?_
        refine rname_L S9.F.ns mq5 ?_ rfl rfl
        refine over_listC (s := ⟨h9', g, d, tk9 + 1 + 1, os⟩) (hhd _) (hlp.at fun o e => S9.F.keep lp o e) (by rw [List.size_toArray]; omega) (fun I C D i ys H => LsAre H [C, C + 1, D, I] ys ((probes.map fun p => flatF (sdF (rows.map rowData)) p n).take i)) fun I h₂ kp2 hIn => ⟨⟨fun C D => .nil, fun C D i ys h h' x k => x.keeps fun b o nb e => ?_, ?_⟩, ?_⟩
        · simp only [List.mem_cons, List.not_mem_nil, or_false, not_or] at nb
          exact k b o nb.1 nb.2.1 nb.2.2.1 (fun ea => nb.2.2.2 (List.mem_singleton.mp ea)) e
        · intro C D i v ys vc H tkH E2 hi hv hJ kpH hc hcn hCo hDo hwo
          rw [List.getElem?_toArray] at hv
          obtain ⟨pr, pt, hpi, rfl⟩ := StrsAre.get' hpv hv
          have hpm : pr ∈ probes := List.mem_of_getElem? hpi
          refine wpAny_storeName_cell (c := C + 1) rfl rfl rfl hc fun h10 hc10 hs10 => ?_
          replace hs10 : ∀ b o, b ≠ C + 1 → H.get? b = some o → h10.get? b = some o := fun b o nb e => hs10.extBut b o nb e
          have hne10 : ∀ b o, h9'.get? b = some o → b ≠ C + 1 := fun b o e ea => by rw [ea] at e; rw [e] at hcn; cases hcn
          have kp10 : ∀ b o, h9'.get? b = some o → h10.get? b = some o := fun b o e => hs10 b o (hne10 b o e) (kpH b o e)
          have S10 := S9.keeps kp10
          have rows10 := rows9.keeps (h' := h10) fun x o _ e => kp10 x o e
          have hl10 := kp10 _ _ hl9
          have ex10 : ∀ x ∈ [C, C + 1, D, I], ∃ o, h10.get? x = some o := by
            have : ∀ x ∈ [C + 1, C, D, I], ∃ o, h10.get? x = some o := ex_cons (let ⟨o, e, _⟩ := hc10; ⟨o, e⟩) hs10 fun x hx => by
              simp only [List.mem_cons, List.not_mem_nil, or_false] at hx
              rcases hx with rfl | rfl | rfl
              · exact hCo
              · exact hDo
              · exact hwo _ (List.mem_singleton.mpr rfl)
            intro x hx
            refine this x ?_
            simp only [List.mem_cons, List.not_mem_nil, or_false] at hx ⊢
            rcases hx with h | h | h | h
            · exact .inr (.inl h)
            · exact .inl h
            · exact .inr (.inr (.inl h))
            · exact .inr (.inr (.inr h))
          dsimp only
          refine x_comp2 (h₀ := h10) (hhd _) rfl (by decide) rfl rfl (by decide) (fun _ _ => rfl) (by decide) (by intro x; rfl) ?_
          refine x_cell S10.r ?_ rfl rfl rfl
          refine over_list2 (s := ⟨h10, g, d, tkH, os⟩) (hhd _) ⟨_, hl10, rfl, _, rfl⟩ (fun _ _ _ i ys _ => IntsAre ys (flatF ((sdF (rows.map rowData)).take i) pr n)) fun I3 h₃ kp3 hI3n => ⟨⟨fun C D => .nil, fun C D i ys h h' x k => x, ?_⟩, ?_⟩
          · intro C3 D3' i3 v3 ys3' m3 H3 tkH3 E3 hi3 hv3 hJ3' F hD3' hCD3 hDo3 hwo3
            rw [List.getElem?_toArray] at hv3
            obtain ⟨a, key, kt, la, e1, e2, vs, ns, rfl, hdi, ha, hla, hvs⟩ := rows10.get hv3
            have hda : (key, ns) ∈ sdF (rows.map rowData) := List.mem_of_getElem? hdi
            refine assign_pair_list_L (hhd _) ⟨_, F.keep _ _ ha, rfl, _, rfl⟩ F rfl rfl rfl fun h11 tk11 F11 kp11 => ?_
            replace F11 : Fr h10 C3 h11 _ := F11
            replace kp11 : ∀ b o, b ≠ C3 → H3.get? b = some o → h11.get? b = some o := kp11
            have S11 := S10.keeps F11.keep
            refine wpAny_tests_one (wpAny_isTrue_value ?_)
            refine x_call_name (x_global (X.keeps S11.F.keep) (T.keeps S11.F.keep) (by k_is) ?_ rfl rfl rfl)
            refine callWith_args rfl (sp_cons ?_)
            refine rname_L F11.ns (show _ = some (Value.str key kt) from rfl) ?_ rfl rfl
            refine sp_cons ?_
            refine x_cell (isCell_at hc10 fun o e => F11.keep _ o e) ?_ rfl rfl rfl
            refine sp_cons ?_
            refine x_cell S11.w ?_ rfl rfl rfl
            refine sp_nil ⟨⟨Keeper.frame, (Looks.ld ((X.keeps S11.F.keep) 83 _ (by k_is))).andThen .now, by decide⟩, ?_⟩
            refine left_spec (X.keeps S11.F.keep) (T.keeps S11.F.keep) (show A.depth + 1 + 2 < recursionLimit by omega) (by rw [units_deeper]; omega) (hhd _) (hpl _ hpm) (G.klenS _ hda) fun h12 tk12 kp12 => ?_
            refine wpAny_truthy_bool ?_
            have F12 := F11.keeps kp12
            have hsn := flat_snoc (p := pr) (n := n) hdi
            dsimp only at hsn
            cases hlf : leftF key pr n with
            | true =>
              rw [if_pos rfl]
              refine rname_L F12.ns (show _ = some (Value.ref la) from rfl) ?_ rfl rfl
              rw [hlf, if_pos rfl] at hsn
              have hJn := hJ3'.append hvs
              rw [← hsn] at hJn
              have hla10 := Heap.lt_size hla
              refine ⟨h12, _, _, la, vs, rfl, rfl, ⟨_, F12.keep _ _ hla, rfl, _, rfl⟩, Nat.ne_of_lt (Nat.lt_of_lt_of_le hla10 F.above), (fun ea => by rw [ea, hD3'] at hla; cases hla), ?_, hJn, F12.ns, fun b o nb e => kp12 b o (kp11 b o nb e)⟩
              rw [hJn.length]
              have h1 := flat_len pr n (sdF (rows.map rowData)) (i3 + 1)
              have h2 := G.sum
              rw [h2] at h1
              omega
            | false =>
              rw [if_neg (by decide)]
              rw [hlf, if_neg (by decide), List.append_nil] at hsn
              rw [← hsn] at hJ3'
              exact ⟨h12, _, _, rfl, hJ3', F12.ns, fun b o nb e => kp12 b o (kp11 b o nb e)⟩
          intro C4 D4 h13 tk13 ys4 hD4 hC4 hDC4 hnC4 hl4 hJ4 kp13 h14' kp14 hl14' kp1014
          rw [List.size_toArray, List.take_of_length_le (by rw [RwAre.length rows10]; exact Nat.le_refl _)] at hJ4
          have hD4b := fresh_bad ex10 hD4
          refine ⟨h14', _, _, rfl, ?_, isCell_at hc10 fun o e => kp1014 _ o e, fun b o nb e => kp1014 b o (hs10 b o nb e)⟩
          rw [take_snoc (x := flatF (sdF (rows.map rowData)) pr n) (by rw [List.getElem?_map, hpi]; rfl)]
          exact (hJ.keeps fun b o nb e => kp1014 b o (hs10 b o (fun ea => nb (by simp [ea])) e)).snoc hD4b hl14' hJ4
        intro C D6 h7 tk7 ys6 hD6 hC6 hDC6 hnC6 hl7 hyl6 hJ6 kp7 h8' kp8' hl8' kp98
        have hJ8 := hJ6.weaken (h' := h8') (bad' := []) (fun x hx => (nomatch hx)) fun b o nb e => kp8' b o (fun ea => nb (by simp [ea])) e
        rw [List.take_of_length_le (by rw [List.length_map, List.size_toArray]; omega)] at hJ8
        obtain ⟨as1, hr1⟩ := (found9.keeps (h' := h8') fun x o _ e => kp98 x o e).reads
        obtain ⟨as2, hr2⟩ := hJ8.reads
        have hee : (probes.map fun p => flatF (sdF (rows.map rowData)) p n) = found := by
          rw [← hfound]
          exact List.map_congr_left fun p hp => (G.asked p hp).symm
        rw [hee] at hr2
        refine eq_dataH (.list (kp98 _ _ hf9) rfl rfl hr1) (.list hl8' rfl rfl hr2) (dataOf_shaped _) (dataOf_shaped _) (by rw [units_deeper]; omega) ?_
        rw [PySem.SeqAt.eqv_refl _ (SeqAt.canLay_of_shaped (dataOf_shaped _))]
        exact q _ _ fun a o e => kp98 a o (S9.F.keep a o e)
end
end Mine
end

section
open PySem PySem.W PySem.Calls PyProof.Rows Builtin Builtin.ObjectAttr
namespace Mine
set_option maxRecDepth 100000
set_option maxHeartbeats 1000000

section
variable {w : World} {A : Around} {E : Value → Shared → Prop} {h : Heap} {g : Array GenState} {d : Drawn} {tk : Nat} {os : OsState}
variable {b dx : Addr} {es : Array DictEntry} {ep : Nat} {sl : Array (Option Value)}

theorem items_next_out {it a : Addr} {i : Nat} {f : Bool} {oa : Obj} {ok ov : Value} {Q : Option Value → Shared → Prop} (hit : KdxIt h it b i es.size ep ok ov a f) (ha : h.get? a = some oa) (hai : a ≠ it) (hb : h.get? b = some ⟨.ref 65, some dx, .dict es ep, sl⟩) (hi : i < es.size)
    (q : ∀ h' T, KdxIt h' it b (i + 1) es.size ep ok ov a true → h'.get? T = some { cls := .type "tuple", data := .seq #[es[i].key, es[i].val] } → h.get? T = none → (∀ x o, x ≠ it → h.get? x = some o → h'.get? x = some o) → Q (some (.ref T)) ⟨h', g, d, tk, os⟩) :
    wpAny (model PP w) A (pyNext (.ref it)) Q E ⟨h, g, d, tk, os⟩ := by
  have hT : Shared.TypeIs ⟨h, g, d, tk, os⟩ (.ref it) "dict_itemiterator" := ⟨_, hit, rfl⟩
  unfold pyNext
  refine wpAny_bind (wpAny_attempt (wpAny_callSpecial?_slot (name := Str.ofString "__next__") hT PySem.F.slot_dict_itemiterator_next
    (wpAny_call_entry PySem.F.slot_dict_itemiterator_next hT PySem.F.entry_dict_itemiterator_next ?_ (PySem.F.args_dict_itemiterator_next_1 _))))
  unfold Builtin.«dict_itemiterator.__next__»
  have hown : Builtin.Dict_items.ownsTuple "dict_itemiterator" = true := by decide
  repeat (first | (with_reducible rw [hown]) | lk)
  rw [if_neg (by simp)]
  repeat lk
  rw [if_neg (by simp)]
  repeat lk
  have hni : ¬ ((i : Int) < 0) := by omega
  rw [if_neg hni, Int.toNat_natCast, Array.getElem?_eq_getElem hi]
  repeat (first | (with_reducible rw [hown]) | lk)
  refine nd_update_to hit (o' := { cls := .type "dict_itemiterator", dict := none, data := .fields #[rawInt a, .bool f, .ref b, .int ((i + 1 : Nat) : Int) 0, .int es.size 0, .int ep 0, ok, ov], slots := #[] }) (by kernel_rfl) rfl fun h₁ he₁ kp₁ sz₁ => ?_
  have hT₁ : Looks (model PP w) h₁ (typeOf (.ref it)) (.type "dict_itemiterator") := (Looks.ld he₁).andThen .now
  repeat (first | (with_reducible rw [hown]) | lk)
  have he₂ : (h₁.push { cls := .type "tuple", data := .seq #[es[i].key, es[i].val] }).get? it = _ := Heap.get?_push_of_some _ he₁
  have ht₂ : (h₁.push { cls := .type "tuple", data := .seq #[es[i].key, es[i].val] }).get? h₁.objs.size = some { cls := .type "tuple", data := .seq #[es[i].key, es[i].val] } := Heap.get?_push_size _ rfl
  have kp₂ : ∀ x o, x ≠ it → h.get? x = some o → (h₁.push { cls := .type "tuple", data := .seq #[es[i].key, es[i].val] }).get? x = some o := fun x o nx e => Heap.get?_push_of_some _ (kp₁ x o nx e)
  have hTn : h.get? h₁.objs.size = none := Heap.get?_none_of_le (by rw [sz₁]; exact Nat.le_refl _)
  have hTit : h₁.objs.size ≠ it := Nat.ne_of_gt (Heap.lt_size he₁)
  generalize h₁.objs.size = T at ht₂ hTn hTit ⊢
  change wpAny _ _ _ _ _ ⟨h₁.push { cls := .type "tuple", data := .seq #[es[i].key, es[i].val] }, g, d, tk, os⟩
  generalize h₁.push { cls := .type "tuple", data := .seq #[es[i].key, es[i].val] } = h₂ at he₂ ht₂ kp₂ ⊢
  repeat lk
  have ha₂ := kp₂ a _ hai ha
  rw [Int.toNat_natCast]
  show wpAny _ _ (loadIfAlive a) _ _ _
  refine kdx_alive ha₂ ?_
  repeat lk
  cases f with
  | true =>
    rw [if_neg (by simp)]
    repeat lk
    exact ⟨_, rfl, wpAny_pure (q h₂ T he₂ ht₂ hTn kp₂)⟩
  | false =>
    rw [if_pos (by simp)]
    repeat lk
    refine nd_update_to he₂ (o' := { cls := .type "dict_itemiterator", dict := none, data := .fields #[rawInt a, .bool true, .ref b, .int ((i + 1 : Nat) : Int) 0, .int es.size 0, .int ep 0, ok, ov], slots := #[] }) rfl rfl fun h₃ he₃ kp₃ sz₃ => ?_
    repeat lk
    exact ⟨_, rfl, wpAny_pure (q h₃ T he₃ (kp₃ _ _ hTit ht₂) hTn fun x o nx e => kp₃ x o nx (kp₂ x o nx e))⟩

theorem items_end_out {it a : Addr} {f : Bool} {ok ov : Value} {Q : Option Value → Shared → Prop} (hh : A.handled = none) (hit : KdxIt h it b es.size es.size ep ok ov a f) (hb : h.get? b = some ⟨.ref 65, some dx, .dict es ep, sl⟩)
    (q : ∀ h' tk', (∀ x o, x ≠ it → h.get? x = some o → h'.get? x = some o) → Q none ⟨h', g, d, tk', os⟩) :
    wpAny (model PP w) A (pyNext (.ref it)) Q E ⟨h, g, d, tk, os⟩ := by
  have hT : Shared.TypeIs ⟨h, g, d, tk, os⟩ (.ref it) "dict_itemiterator" := ⟨_, hit, rfl⟩
  unfold pyNext
  refine wpAny_bind (wpAny_attempt (wpAny_callSpecial?_slot (name := Str.ofString "__next__") hT PySem.F.slot_dict_itemiterator_next
    (wpAny_call_entry PySem.F.slot_dict_itemiterator_next hT PySem.F.entry_dict_itemiterator_next ?_ (PySem.F.args_dict_itemiterator_next_1 _))))
  unfold Builtin.«dict_itemiterator.__next__»
  have hown : Builtin.Dict_items.ownsTuple "dict_itemiterator" = true := by decide
  repeat (first | (with_reducible rw [hown]) | lk)
  rw [if_neg (by simp)]
  repeat lk
  rw [if_neg (by simp)]
  repeat lk
  have hni : ¬ ((es.size : Int) < 0) := by omega
  rw [if_neg hni, Int.toNat_natCast, Array.getElem?_eq_none (Nat.le_refl _)]
  repeat (first | (with_reducible rw [hown]) | lk)
  refine nd_update_to hit (o' := { cls := .type "dict_itemiterator", dict := none, data := .fields #[rawInt a, .bool f, .none, .int (es.size : Int) 0, .int es.size 0, .int ep 0, ok, ov], slots := #[] }) (by kernel_rfl) rfl fun h₁ he₁ kp₁ sz₁ => ?_
  repeat lk
  refine wpAny_handled ?_
  rw [show A.in1.handled = none from hh]
  repeat lk
  refine wpAny_throw ?_
  refine wpAny_bind (wpAny_isInstance (T := "StopIteration") (b := true) ⟨_, Heap.get?_push_size _ rfl, rfl⟩ isSubtype_stop ?_)
  exact wpAny_pure (q _ _ fun x o nx e => Heap.get?_push_of_some _ (Heap.get?_push_of_some _ (kp₁ x o nx e)))

theorem st_item {it S : Addr} {i : Nat} {Q : Option Value → Shared → Prop} (hst : KdxSt h it b S i es.size ep) (hS : ∃ o, h.get? S = some o) (hb : h.get? b = some ⟨.ref 65, some dx, .dict es ep, sl⟩) (hi : i < es.size)
    (q : ∀ h' T, KdxSt h' it b S (i + 1) es.size ep → h'.get? T = some { cls := .type "tuple", data := .seq #[es[i].key, es[i].val] } → h.get? T = none → (∀ x o, x ≠ it → h.get? x = some o → h'.get? x = some o) → Q (some (.ref T)) ⟨h', g, d, tk, os⟩) :
    wpAny (model PP w) A (pyNext (.ref it)) Q E ⟨h, g, d, tk, os⟩ := by
  obtain ⟨oS, eS⟩ := hS
  rcases hst with ⟨rfl, ok, ov, hit⟩ | ⟨ok, ov, a, f, oa, hit, ha, hai, haS⟩
  · exact items_next hit hb hi fun h' T hit' ht hTn hk => q h' T (.inr ⟨_, _, T, false, _, hit', ht, (fun e => by rw [e, hit] at hTn; cases hTn), (fun e => by rw [e, eS] at hTn; cases hTn)⟩) ht hTn hk
  · exact items_next_out hit ha hai hb hi fun h' T hit' ht hTn hk => q h' T (.inr ⟨ok, ov, a, true, oa, hit', hk a oa hai ha, hai, haS⟩) ht hTn hk
theorem st_end {it S : Addr} {Q : Option Value → Shared → Prop} (hh : A.handled = none) (hst : KdxSt h it b S es.size es.size ep) (hb : h.get? b = some ⟨.ref 65, some dx, .dict es ep, sl⟩)
    (q : ∀ h' tk', (∀ x o, x ≠ it → h.get? x = some o → h'.get? x = some o) → Q none ⟨h', g, d, tk', os⟩) :
    wpAny (model PP w) A (pyNext (.ref it)) Q E ⟨h, g, d, tk, os⟩ := by
  rcases hst with ⟨e, ok, ov, hit⟩ | ⟨ok, ov, a, f, oa, hit, ha, hai, haS⟩
  · exact items_end hh (by rw [e] at hit ⊢; exact hit) hb q
  · exact items_end_out hh hit hb q

inductive TupsAre (h : Heap) (bad : List Addr) : List Addr → List DictEntry → Prop
  | nil : TupsAre h bad [] []
  | cons {a e as es} : a ∉ bad → h.get? a = some { cls := .type "tuple", data := .seq #[e.key, e.val] } → TupsAre h bad as es → TupsAre h bad (a :: as) (e :: es)
theorem TupsAre.snoc {h : Heap} {bad : List Addr} {a : Addr} {e : DictEntry} (h1 : a ∉ bad) (h2 : h.get? a = some { cls := .type "tuple", data := .seq #[e.key, e.val] }) : ∀ {as es}, TupsAre h bad as es → TupsAre h bad (as ++ [a]) (es ++ [e])
  | _, _, .nil => .cons h1 h2 .nil
  | _, _, .cons g1 g2 r => .cons g1 g2 (r.snoc h1 h2)
theorem TupsAre.keeps {h h' : Heap} {bad : List Addr} (k : ∀ b o, b ∉ bad → h.get? b = some o → h'.get? b = some o) : ∀ {as es}, TupsAre h bad as es → TupsAre h' bad as es
  | _, _, .nil => .nil
  | _, _, .cons g1 g2 r => .cons g1 (k _ _ g1 g2) (r.keeps k)

theorem TupsAre.weaken {h : Heap} {bad bad' : List Addr} (k : ∀ b, b ∈ bad' → b ∈ bad) : ∀ {as es}, TupsAre h bad as es → TupsAre h bad' as es
  | _, _, .nil => .nil
  | _, _, .cons g1 g2 r => .cons (fun hm => g1 (k _ hm)) g2 (r.weaken k)

theorem items_loop {S I : Addr} {R : Result → Shared → Prop} {h₁ : Heap} (hh : A.handled = none) (hne : S ≠ I) (hbS : b ≠ S) (hbI : b ≠ I) (hn : es.size ≤ 1000) (res : Value)
    (hR : ∀ h' tk acc c as, (∀ x o, x ≠ S → x ≠ I → h₁.get? x = some o → h'.get? x = some o) → h'.get? S = some (listOf acc c) → acc.toList = List.map Value.ref as → TupsAre h' [S, I] as es.toList → R (.ok (.ret res)) ⟨h', g, d, tk, os⟩) :
    ∀ (k i : Nat) (h : Heap) (tk c : Nat) (acc : Array Value) (as : List Addr), es.size - i = k → i ≤ es.size → KdxSt h I b S i es.size ep → h.get? b = some ⟨.ref 65, some dx, .dict es ep, sl⟩ → (∀ x o, x ≠ S → x ≠ I → h₁.get? x = some o → h.get? x = some o) →
      h.get? S = some (listOf acc c) → (∃ o, h.get? I = some o) → acc.toList = List.map Value.ref as → TupsAre h [S, I] as (es.toList.take i) →
      codeAny (model PP w) A (.builtin "list.extend.loop" ⟨[.ref S, .ref I, res], []⟩) R ⟨h, g, d, tk, os⟩ := by
  intro k
  induction k with
  | zero =>
    intro i h tk c acc as hk hi hst hb hkeep hS hI hacc hG
    obtain rfl : i = es.size := by omega
    refine codeAny_builtin PySem.F.entry_extend_loop ?_
    rw [Around.under_plainId PySem.F.plain_extend_loop _]
    show wpAny _ A.in1 (pyNext (.ref I) >>= _) _ _ _
    refine wpAny_bind (st_end (A := A.in1) hh hst hb fun h' tk' he => ?_)
    refine wpAny_pure (hR h' tk' acc c as (fun x o h1 h2 e => he x o h2 (hkeep x o h1 h2 e)) (he S _ hne hS) hacc ?_)
    rw [List.take_of_length_le (by simp)] at hG
    exact hG.keeps fun x o nb e => he x o (fun ea => nb (by simp [ea])) e
  | succ k ih =>
    intro i h tk c acc as hk hi hst hb hkeep hS hI hacc hG
    have hlt : i < es.size := by omega
    refine codeAny_builtin PySem.F.entry_extend_loop ?_
    rw [Around.under_plainId PySem.F.plain_extend_loop _]
    show wpAny _ A.in1 (pyNext (.ref I) >>= _) _ _ _
    refine wpAny_bind (st_item (S := S) hst ⟨_, hS⟩ hb hlt fun h' T hst' ht hTn hkp => ?_)
    have hS' := hkp S _ hne hS
    have hasz : acc.size ≤ 1000 := by
      have : ∀ {as : List Addr} {l : List DictEntry}, TupsAre h [S, I] as l → as.length = l.length := by
        intro as l x
        induction x with
        | nil => rfl
        | cons _ _ _ ih => simp [ih]
      have h1 := this hG
      have h2 : acc.size = as.length := by rw [← Array.length_toList, hacc, List.length_map]
      rw [h2, h1, List.length_take]; omega
    show wpAny _ A.in1 (updateSeq S (·.push (Value.ref T)) >>= _) _ _ _
    have up : ∀ x o, x ≠ S → h'.get? x = some o → (h'.update S (Obj.mapSeq (·.push (Value.ref T)))).get? x = some o := fun x o hx e => (Heap.get?_update_other _ _ (Ne.symm hx)).trans e
    obtain ⟨oI, eI⟩ := hI
    have hTb : T ∉ [S, I] := fun hm => by
      simp only [List.mem_cons, List.not_mem_nil, or_false] at hm
      rcases hm with rfl | rfl
      · rw [hS] at hTn; cases hTn
      · rw [eI] at hTn; cases hTn
    have hTS : T ≠ S := fun e => hTb (by simp [e])
    have hIx : ∃ o, h'.get? I = some o := by
      rcases hst' with ⟨_, _, _, e⟩ | ⟨_, _, _, _, _, e, _⟩ <;> exact ⟨_, e⟩
    obtain ⟨oI', eI'⟩ := hIx
    refine wpAny_bind ?_
    refine wpAny_updateSeq hS' rfl (wpAny_pure ⟨plainId_quiet PySem.F.plain_extend_loop _, ih (i + 1) _ tk _ (acc.push (Value.ref T)) (as ++ [T]) (by omega) hlt (hst'.keep up (Ne.symm hne)) (up _ _ hbS (hkp b _ hbI hb))
      (fun x o h1 h2 e => up x o h1 (hkp x o h2 (hkeep x o h1 h2 e))) (Heap.get?_update_self _ hS' rfl) ⟨_, up I _ (Ne.symm hne) eI'⟩ (by rw [Array.toList_push, hacc, List.map_append]; rfl) ?_⟩) (by rw [sizeLine_eq]; omega) (by show (acc.push (Value.ref T)).size ≤ sizeLine + 1; rw [Array.size_push, sizeLine_eq]; omega)
    rw [take_snoc (x := es[i]) (by simp [hlt])]
    exact (hG.keeps fun x o nb e => up x o (fun ea => nb (by simp [ea])) (hkp x o (fun ea => nb (by simp [ea])) e)).snoc hTb (up _ _ hTS ht)

theorem items_extend {v S : Addr} {R : Result → Shared → Prop} (hh : A.handled = none) (hv : h.get? v = some { cls := .type "dict_items", data := .fields #[.ref b] }) (hb : h.get? b = some ⟨.ref 65, some dx, .dict es ep, sl⟩) (hn : es.size ≤ 1000) {c₀ : Nat} (hS : h.get? S = some (listOf #[] c₀)) (res : Value)
    (hR : ∀ h' tk acc c as, (∀ x o, x ≠ S → h.get? x = some o → h'.get? x = some o) → h'.get? S = some (listOf acc c) → acc.toList = List.map Value.ref as → TupsAre h' [S] as es.toList → R (.ok (.ret res)) ⟨h', g, d, tk, os⟩) :
    wpAny (model PP w) A.in1 (Builtin.List.listExtendWith (.ref S) (.ref v) res)
      (fun fin s' => match fin with | .done f => R (.ok f) s' | .again c' => c'.quiet = true ∧ codeAny (model PP w) A c' R s') (fun e s' => R (.error e) s') ⟨h, g, d, tk, os⟩ := by
  have hSv : S ≠ v := fun e => by
    rw [e, hv] at hS
    have := congrArg (fun x => x.map Obj.cls) hS
    simp at this
  have hbS : b ≠ S := fun e => by
    rw [e, hS] at hb
    have := congrArg (fun x => x.map Obj.cls) hb
    simp at this
  have hT : Shared.TypeIs ⟨h, g, d, tk, os⟩ (.ref v) "dict_items" := ⟨_, hv, rfl⟩
  unfold Builtin.List.listExtendWith
  refine wpAny_bind (wpAny_typeOf (T := "dict_items") hT ?_)
  have h1 : Builtin.List.listSameRef (.ref S) (.ref v) = false := by simp [Builtin.List.listSameRef, hSv]
  have h2 : (Value.type "dict_items" == Value.type "list") = false := by decide
  have h3 : (Value.type "dict_items" == Value.type "tuple") = false := by decide
  simp only [h1, h2, h3, Bool.or_false, Bool.false_eq_true, if_false]
  refine wpAny_bind (items_iter hv hb ?_)
  have kp : ∀ x o, h.get? x = some o → (h.push { cls := .type "dict_itemiterator", data := .fields #[.none, .bool false, .ref b, .int 0 0, .int es.size 0, .int ep 0, .none, .none] }).get? x = some o := fun x o e => Heap.get?_push_of_some _ e
  have hit : IsItemIter (h.push { cls := .type "dict_itemiterator", data := .fields #[.none, .bool false, .ref b, .int 0 0, .int es.size 0, .int ep 0, .none, .none] }) h.objs.size b 0 es.size ep .none .none := Heap.get?_push_size _ rfl
  have ne : ∀ x o, h.get? x = some o → x ≠ h.objs.size := fun x o e => Nat.ne_of_lt (Heap.lt_size e)
  generalize h.objs.size = I at hit ne ⊢
  generalize h.push { cls := .type "dict_itemiterator", data := .fields #[.none, .bool false, .ref b, .int 0 0, .int es.size 0, .int ep 0, .none, .none] } = h₁ at kp hit ⊢
  have key : ∀ (h₂ : Heap) (c₁ tk : Nat), (∀ x o, x ≠ S → h₁.get? x = some o → h₂.get? x = some o) → h₂.get? S = some (listOf #[] c₁) → codeAny (model PP w) A (.builtin "list.extend.loop" ⟨[.ref S, .ref I, res], []⟩) R ⟨h₂, g, d, tk, os⟩ := by
    intro h₂ c₁ tk₂ hk hS₁
    have hIS : I ≠ S := Ne.symm (ne _ _ hS)
    have hI2 := hk I _ hIS hit
    refine items_loop (h₁ := h) hh (Ne.symm hIS) hbS (ne _ _ hb) hn res (fun h' tk' acc c as hk' hS' hacc hG => hR h' tk' acc c as (fun x o n1 e => hk' x o n1 (ne _ _ e) e) hS' hacc ?_)
      es.size 0 h₂ tk₂ c₁ #[] [] (Nat.sub_zero _) (Nat.zero_le _) (.inl ⟨rfl, .none, .none, hI2⟩) (hk _ _ hbS (kp _ _ hb)) (fun x o n1 _ e => hk x o n1 (kp x o e)) hS₁ ⟨_, hI2⟩ rfl .nil
    exact hG.weaken fun x hx => by simp only [List.mem_cons, List.not_mem_nil, or_false] at hx ⊢; exact .inl hx
  refine wpAny_bind (wpAny_holding (kdx_hint ⟨_, kp _ _ hv, rfl⟩ ?_))
  refine wpAny_ite_split (fun _ => ?_) (fun _ => wpAny_pure ⟨plainId_quiet PySem.F.plain_extend_loop _, key _ c₀ _ (fun x o _ e => e) (kp _ _ hS)⟩)
  refine wpAny_bind (wpAny_rule ?_)
  refine wpAny_bind ?_
  have hS₁ := kp _ _ hS
  show wpAny _ _ (updateSeq S (·.push .none) >>= fun _ => updateSeq S (·.pop)) _ _ _
  refine wpAny_bind (wpAny_updateSeq hS₁ rfl ?_)
  have hS₂ := Heap.get?_update_self (Obj.mapSeq (·.push Value.none)) hS₁ rfl
  refine wpAny_updateSeq (hz := by seq_fits) hS₂ rfl ?_
  have hS₃ := Heap.get?_update_self (Obj.mapSeq (·.pop)) hS₂ rfl
  refine wpAny_pure ⟨plainId_quiet PySem.F.plain_extend_loop _, key _ _ _ (fun x o hx e => ?_) hS₃⟩
  exact (Heap.get?_update_other _ _ (Ne.symm hx)).trans ((Heap.get?_update_other _ _ (Ne.symm hx)).trans e)

theorem items_list {v : Addr} {Q : Value → Shared → Prop} (hh : A.handled = none) (hv : h.get? v = some { cls := .type "dict_items", data := .fields #[.ref b] }) (hb : h.get? b = some ⟨.ref 65, some dx, .dict es ep, sl⟩) (hn : es.size ≤ 1000)
    (q : ∀ S h' tk acc c as, (∀ x o, h.get? x = some o → h'.get? x = some o) → h'.get? S = some (listOf acc c) → acc.toList = List.map Value.ref as → TupsAre h' [S] as es.toList → Q (.ref S) ⟨h', g, d, tk, os⟩) :
    wpAny (model PP w) A (call (.type "list") [.ref v]) Q E ⟨h, g, d, tk, os⟩ := by
  refine callType_codes (Q₁ := fun obj s₁ => obj = .ref h.objs.size ∧ s₁ = ⟨h.push { cls := .type "list", data := .seq #[] }, g, d, tk, os⟩) PySem.F.called_list (PySem.F.typeCall_list_1 _) PySem.F.entry_list_init
    (code_list_new _ ⟨rfl, rfl⟩) fun obj s₁ h₁ => ?_
  obtain ⟨rfl, rfl⟩ := h₁
  have hS : (h.push { cls := .type "list", data := .seq #[] }).get? h.objs.size = some (listOf #[] 0) := Heap.get?_push_size _ rfl
  have kp : ∀ x o, h.get? x = some o → (h.push { cls := .type "list", data := .seq #[] }).get? x = some o := fun x o e => Heap.get?_push_of_some _ e
  have ne : ∀ x o, h.get? x = some o → x ≠ h.objs.size := fun x o e => Nat.ne_of_lt (Heap.lt_size e)
  refine ⟨⟨_, hS, rfl⟩, PySem.F.args_list_init_2 _ _, ?_⟩
  generalize h.objs.size = S at hS ne ⊢
  generalize h.push { cls := .type "list", data := .seq #[] } = h₁ at hS kp ⊢
  show wpAny _ _ (do let old ← Builtin.List.listItems (.ref S); Builtin.List.listUpdate (.ref S) (fun _ => #[]); letGo old.toList.reverse; Builtin.List.listExtendWith (.ref S) (.ref v) .none) _ _ _
  refine wpAny_bind ?_
  unfold Builtin.List.listItems
  refine wpAny_bind (wpAny_seqItems hS rfl (wpAny_pure ?_))
  show wpAny _ _ (updateSeq S (fun _ => #[]) >>= fun _ => letGo (#[] : Array Value).toList.reverse >>= fun _ => Builtin.List.listExtendWith (.ref S) (.ref v) .none) _ _ _
  refine wpAny_bind (wpAny_updateSeq hS rfl ?_)
  have hS₂ := Heap.get?_update_self (Obj.mapSeq (fun _ => (#[] : Array Value))) hS rfl
  have oth : ∀ x o, x ≠ S → h₁.get? x = some o → (h₁.update S (Obj.mapSeq (fun _ => (#[] : Array Value)))).get? x = some o :=
    fun x o hx e => (Heap.get?_update_other _ _ (Ne.symm hx)).trans e
  refine wpAny_bind (wpAny_letGo ?_)
  refine items_extend (A := A.in1) hh (oth v _ (ne _ _ hv) (kp _ _ hv)) (oth b _ (ne _ _ hb) (kp _ _ hb)) hn hS₂ .none fun h' tk' acc c as hk hS' hacc hG => ?_
  exact ⟨rfl, q S h' tk' acc c as (fun x o e => hk x o (ne _ _ e) (oth x o (ne _ _ e) (kp x o e))) hS' hacc hG⟩
end
end Mine
end

section
open PySem PySem.W PySem.Calls PyProof.Rows
namespace Mine
set_option maxRecDepth 100000
set_option maxHeartbeats 2000000

/-- what the ladder holds -/
def items0 (texts : List Str) : List (Str × List Int) := (List.range texts.length).map fun k => (texts.getD k "", [(k : Int)])
def heldF (texts : List Str) (ws : List Int) (i : Nat) : List (Str × List Int) := (ws.take i).foldl (fun d n => filedF d n) (items0 texts)
theorem heldF_succ {texts : List Str} {ws : List Int} {i : Nat} {n : Int} (h : ws[i]? = some n) : heldF texts ws (i + 1) = filedF (heldF texts ws i) n := by
  unfold heldF; rw [take_snoc h, List.foldl_append]; rfl

theorem its_of {h : Heap} {w : World} {bad : List Addr} : ∀ {as : List Addr} {rows : List Row}, TupsAre h bad as (rows.map (entryOf w)) → (∀ r ∈ rows, h.get? r.addr = some (listOf r.vals.toArray r.ep) ∧ IntsAre r.vals r.places) →
    ∃ its : List It, its.map (fun i => Value.ref i.tup) = as.map Value.ref ∧ its.map itData = rows.map rowData ∧ ∀ i ∈ its, ItAt h i
  | [], [], _, _ => ⟨[], rfl, rfl, fun i hi => nomatch hi⟩
  | a :: as, r :: rows, .cons g1 g2 x, hr => by
    obtain ⟨its, h1, h2, h3⟩ := its_of x fun r hm => hr r (List.mem_cons_of_mem _ hm)
    have hr0 := hr r List.mem_cons_self
    refine ⟨⟨a, r.key, r.tok, r.addr, r.vals, r.ep, r.places, 0⟩ :: its, by rw [List.map_cons, h1]; rfl, by rw [List.map_cons, h2]; rfl, fun i hi => ?_⟩
    rcases List.mem_cons.mp hi with rfl | hi
    · exact ⟨g2, hr0.1, hr0.2⟩
    · exact h3 i hi

/-- lists, tuples, tables, codes and cells stay -/
def Steady (o : Obj) : Prop := (∃ vs n, o.data = .seq vs n) ∨ (∃ v, o.data = .cell v) ∨ (∃ vs, o.data = .fields vs ∧ (o.cls = .none ∨ ∃ q t, vs[1]? = some (.str q t)))
def KeepSC (h h' : Heap) : Prop := ∀ b o, Steady o → h.get? b = some o → h'.get? b = some o
theorem itAt_sc {h h' : Heap} {i : It} (x : ItAt h i) (k : KeepSC h h') : ItAt h' i := ⟨k _ _ (.inl ⟨_, _, rfl⟩) x.1, k _ _ (.inl ⟨_, _, rfl⟩) x.2.1, x.2.2⟩
theorem isList_sc {h h' : Heap} {l : Addr} {its : Array Value} (x : h.IsList l its) (k : KeepSC h h') : h'.IsList l its := let ⟨o, e, hc, n, hd⟩ := x; ⟨o, k _ _ (.inl ⟨_, n, hd⟩) e, hc, n, hd⟩
theorem isCell_sc {h h' : Heap} {a : Addr} {v : Option Value} (x : h.IsCell a v) (k : KeepSC h h') : h'.IsCell a v := let ⟨o, e, hd⟩ := x; ⟨o, k _ _ (.inr (.inl ⟨_, hd⟩)) e, hd⟩
theorem tabSt_sc {h h' : Heap} {P : Addr} {line col : Nat} {qual : Str} (x : TabSt h P line col qual) (k : KeepSC h h') : TabSt h' P line col qual := by
  rcases x with e | ⟨c', e, cc, oc, vs, t, e', hoc, hdc, hv⟩
  · exact .inl (k _ _ (.inr (.inr ⟨_, rfl, .inl rfl⟩)) e)
  · exact .inr ⟨c', k _ _ (.inr (.inr ⟨_, rfl, .inl rfl⟩)) e, cc, oc, vs, t, e', k _ _ (.inr (.inr ⟨_, hdc, .inr ⟨_, _, hv⟩⟩)) hoc, hdc, hv⟩
theorem rowsAt_sc {h h' : Heap} {rows : List Row} (x : RowsAt h rows) (k : KeepSC h h') : RowsAt h' rows := ⟨fun r hr => ⟨k _ _ (.inl ⟨_, _, rfl⟩) (x.at_ r hr).1, (x.at_ r hr).2⟩, x.ok⟩
theorem keepSC_full {h h' : Heap} (k : ∀ b o, h.get? b = some o → h'.get? b = some o) : KeepSC h h' := fun b o _ e => k b o e
theorem keepSC_L {h h' : Heap} {L : Addr} {m : Str → Option Value} (hn : h.Ns L m) (k : ∀ b o, b ≠ L → h.get? b = some o → h'.get? b = some o) : KeepSC h h' := fun b o hs e => k b o (fun ea => by
  obtain ⟨oL, es, ep, eL, hd, _⟩ := hn
  rw [ea, eL] at e; cases e
  rcases hs with ⟨_, _, h1⟩ | ⟨_, h1⟩ | ⟨_, h1, _⟩ <;> (rw [hd] at h1; cases h1)) e
theorem keepSC_I {h h' : Heap} {I : Addr} (hI : ∃ oI, h.get? I = some oI ∧ oI.cls = .type "list_iterator" ∧ ∃ (x : Addr) (j : Nat), oI.data = .fields #[.ref x, .int j 0]) (k : ∀ b o, b ≠ I → h.get? b = some o → h'.get? b = some o) : KeepSC h h' := fun b o hs e => k b o (fun ea => by
  obtain ⟨oI, eI, hc, x, j, hd⟩ := hI
  rw [ea, eI] at e; cases e
  rcases hs with ⟨_, _, h1⟩ | ⟨_, h1⟩ | ⟨_, h1, h2⟩
  · rw [hd] at h1; cases h1
  · rw [hd] at h1; cases h1
  · rw [hd] at h1; cases h1
    rcases h2 with h2 | ⟨q, t, h2⟩
    · rw [hc] at h2; cases h2
    · simp at h2) e
theorem frozen_L {w : World} {h h' : Heap} {b dx lf L : Addr} {es : Array DictEntry} {ep : Nat} {m : Str → Option Value} {v : Value} (Z : Frozen w h b dx es ep lf) (hn : h.Ns L m) (hm : m "items" = some v) (hbL : b ≠ L) (k : ∀ b o, b ≠ L → h.get? b = some o → h'.get? b = some o) : Frozen w h' b dx es ep lf := by
  obtain ⟨hb, ⟨hs, tk, l2, hd, pk, p1, p2, p3, cell, pm2, c2, ctv2, oc, hp, hl, hc, he, ho⟩, ps, pm, c', ctv, hf, hr⟩ := Z
  have sc := keepSC_L hn k
  have hcr : ∀ {c q}, h.CodeRec c q → h'.CodeRec c q := fun ⟨cc, oc, vs, t, e', hoc, hdc, hv⟩ => ⟨cc, oc, vs, t, e', sc _ _ (.inr (.inr ⟨_, hdc, .inr ⟨_, _, hv⟩⟩)) hoc, hdc, hv⟩
  obtain ⟨oL, eL', epL, eL, dL, kL, fL⟩ := hn
  have hdL : dx ≠ L := fun ea => by
    rw [ea, eL] at hd; cases hd; cases dL
    have := fL "items"
    rw [hm] at this
    have h2 : nsFind #[⟨hs, .str "_frozen" tk, .ref l2⟩] "items" = none := rfl
    rw [show nsFind _ _ = none from h2] at this
    cases this
  refine ⟨k _ _ hbL hb, ⟨hs, tk, l2, k _ _ hdL hd, pk, p1, p2, p3, cell, pm2, c2, ctv2, oc, hp, k _ _ (fun ea => ?_) hl, hcr hc, sc _ _ (.inr (.inl ⟨_, ho⟩)) he, ho⟩, ps, pm, c', ctv, k _ _ (fun ea => ?_) hf, hcr hr⟩
  · rw [ea, eL] at hl; cases hl; cases dL
  · rw [ea, eL] at hf; cases hf; cases dL

theorem intsGet : ∀ {vs : List Value} {ns : List Int}, IntsAre vs ns → ∀ {i : Nat} {v : Value}, vs[i]? = some v → ∃ (n : Int) (t : Tok), ns[i]? = some n ∧ v = Value.int n t
  | _, _, .nil, i, v, hv => by simp at hv
  | _, _, .cons n t r, i, v, hv => by
    cases i with
    | zero => cases hv; exact ⟨n, t, rfl, rfl⟩
    | succ i => exact intsGet r (i := i) hv
theorem sumB_data (its : List It) : (sumB its : Int) = ((its.map itData).map fun r => (r.2.length : Int)).sum := by
  induction its with
  | nil => rfl
  | cons i l ih =>
    rw [List.map_cons, List.map_cons, List.sum_cons, ← ih]
    simp [sumB, itData]
theorem items0_len (n : Nat) (f : Nat → Str) : (((List.range n).map fun k => (f k, [(k : Int)])).map fun r : Str × List Int => (r.2.length : Int)).sum = n := by
  induction n with
  | zero => rfl
  | succ n ih => rw [List.range_succ, List.map_append, List.map_append, List.sum_append, ih]; simp
theorem held_ok {texts probes : List Str} {ws : List Int} (htl : ∀ t ∈ texts, t.length ≤ 1000) (htn : texts.length ≤ 50) (hgood : ∀ i n, ws[i]? = some n → Good texts probes (heldF texts ws (i + 1)) n) (i : Nat) (hi : i ≤ ws.length) :
    (∀ r ∈ heldF texts ws i, r.1.length ≤ 1000) ∧ (heldF texts ws i).length ≤ 60 ∧ ((heldF texts ws i).map fun r => (r.2.length : Int)).sum ≤ 60 := by
  cases i with
  | zero =>
    unfold heldF
    rw [List.take_zero]
    refine ⟨fun r hr => ?_, ?_, ?_⟩
    · obtain ⟨k, hk, rfl⟩ := List.mem_map.mp hr
      have hk' := List.mem_range.mp hk
      show (texts.getD k "").length ≤ 1000
      rw [List.getD_eq_getElem?_getD, List.getElem?_eq_getElem hk']
      exact htl _ (List.getElem_mem hk')
    · show (items0 texts).length ≤ 60
      unfold items0; rw [List.length_map, List.length_range]; omega
    · show ((items0 texts).map fun r => (r.2.length : Int)).sum ≤ 60
      unfold items0; rw [items0_len]; omega
  | succ i =>
    have G := hgood i ws[i] (List.getElem?_eq_getElem (by omega))
    exact ⟨G.klen, Nat.le_of_lt G.rlen, by rw [← sdF_sum, G.sum]; omega⟩

structure JL (c₀ h : Heap) (L lt lp I : Addr) (texts : List Str) (ws : List Int) (i : Nat) (H : Heap) (m : Str → Option Value) (its : List It) (li : Addr) : Prop where
  F : Fr c₀ L H m
  mi : m "items" = some (.ref li)
  mp : m "probes" = some (.ref lp)
  ct : H.IsCell (L + 1) (some (.ref lt))
  t57 : TabSt H 57 16 23 "FreezableDefaultDict.freeze.<locals>.<lambda>"
  t90 : TabSt H 90 48 32 "_law_filed.<locals>.<lambda>"
  old : ∀ a o, a ≠ 57 → a ≠ 90 → h.get? a = some o → H.get? a = some o
  hI : h.get? I = none
  li_ : H.IsList li (its.map fun i => Value.ref i.tup).toArray
  at_ : ∀ it ∈ its, ItAt H it
  data : its.map itData = heldF texts ws i

section
variable {w : World} {A : Around} {E : Value → Shared → Prop} {h : Heap} {g : Array GenState} {d : Drawn} {tk : Nat} {os : OsState}
variable {p : Program} {loose : List Str} {mean : ExcName → Option Value} {mg mb : Str → Option Value}
theorem fillFrag_LLadder (w : World) : hd.heap_39 w.params = hd.heap_39 w.params ∧ PySem.Challenge.rw_il0158_01 = PySem.Challenge.rw_il0158_01 := by k_fill; exact ⟨rfl, rfl⟩

theorem ladder_spec {c₀ : Heap} {lt lp lw : Addr} {tv pv wv : List Value} {texts probes : List Str} {ws : List Int} {Q : Value → Shared → Prop} (X : (hd.heap_39 w.params).In c₀) (T : Top p loose mean mg mb c₀) (KP : ∀ a o, c₀.get? a = some o → h.get? a = some o) (hcs : c₀.objs.size ≤ h.objs.size)
    (n57 : c₀.get? 57 = none) (n90 : c₀.get? 90 = none) (C61 : CodeHd c₀ 61 57) (C94 : CodeHd c₀ 94 90)
    (hP57 : TabSt h 57 16 23 "FreezableDefaultDict.freeze.<locals>.<lambda>") (hP90 : TabSt h 90 48 32 "_law_filed.<locals>.<lambda>")
    (hroom : A.depth + 20 < recursionLimit) (hu : A.units + 300 < cLine) (hh : A.handled = none)
    (hlt : h.IsList lt tv.toArray) (htv : StrsAre tv texts) (htl : ∀ t ∈ texts, t.length ≤ 1000) (htn : texts.length ≤ 50) (hlp : h.IsList lp pv.toArray) (hpv : StrsAre pv probes) (hpl : ∀ t ∈ probes, t.length ≤ 1000) (hpn : probes.length ≤ 50)
    (hlw : h.IsList lw wv.toArray) (hwv : IntsAre wv ws) (hgood : ∀ i n, ws[i]? = some n → Good texts probes (heldF texts ws (i + 1)) n)
    (q : ∀ h' tk', (∀ a o, a ≠ 57 → a ≠ 90 → h.get? a = some o → h'.get? a = some o) → TabSt h' 57 16 23 "FreezableDefaultDict.freeze.<locals>.<lambda>" → TabSt h' 90 48 32 "_law_filed.<locals>.<lambda>" → Q (.bool true) ⟨h', g, d, tk', os⟩) :
    wpAny (model PP w) A (call (.ref 100) [.ref lt, .ref lp, .ref lw]) Q E ⟨h, g, d, tk, os⟩ := by
  have XH := X.keeps KP
  have TH := T.keeps KP
  refine wpAny_call ?_
  refine' enterC XH TH ?k6 ?k7 ?k8 ?k9 ?kB ?_ ?c2 ?c3 ?c4
  case k6 => k_is
  case k7 => k_is
  case k8 => omega
  case k9 => exact BindsTo.of_eq rfl
  case kB => exact rfl
  case c2 => exact rfl
  case c3 => exact rfl
  case c4 => exact rfl
  have hhd : ∀ env, (A.deeper env).handled = none := fun _ => hh
  intro L h₁ tk₁ F' hcells
  have hct : h₁.IsCell (L + 1) (some (.ref lt)) := hcells "texts" (L + 1) rfl
  dsimp only at F' ⊢
  clear hcells
  have hk0 : ∀ a o, c₀.get? a = some o → h₁.get? a = some o := fun a o e => F'.keep a o (KP a o e)
  have F1 : Fr c₀ L h₁ _ := ⟨F'.ns, hk0, Nat.le_trans hcs F'.above⟩
  have kh1 : ∀ a o, h.get? a = some o → h₁.get? a = some o := F'.keep
  have hoL : ∀ a o, h.get? a = some o → a ≠ L := fun a o e => Nat.ne_of_lt (Nat.lt_of_lt_of_le (Heap.lt_size e) F'.above)
  have hlt1 : h₁.IsList lt tv.toArray := hlt.at fun o e => kh1 lt o e
  have htvl := StrsAre.length' htv
  -- the items
  refine x_cons (x_assign_comp (h₀ := h₁) rfl rfl (by decide) rfl (by decide) (by intro x; rfl) ?_)
  refine x_call_name (x_builtin (X.keeps F1.keep) (T.keeps F1.keep) (by k_is) (by boot_fast) (by decide) ?_ rfl rfl rfl rfl)
  refine callWith_args rfl (sp_cons ?_)
  refine x_call_name (x_builtin (X.keeps F1.keep) (T.keeps F1.keep) (by k_is) (by boot_fast) (by decide) ?_ rfl rfl rfl rfl)
  refine callWith_args rfl (sp_cons ?_)
  refine x_cell hct ?_ rfl rfl rfl
  refine sp_nil ⟨⟨Keeper.machine, Looks.of_pure rfl, by decide⟩, ?_⟩
  refine len_list hlt1 (by rw [List.size_toArray]; omega) ?_
  refine sp_nil ⟨⟨Keeper.machine, Looks.of_pure rfl, by decide⟩, ?_⟩
  rw [List.size_toArray, htvl]
  refine range_raw fun r h2 tk2 u v kp2 sz2 hr2 => ?_
  refine range_iter (by omega) hr2 fun I h3 kp3 hIn hIl sz3 hit3 => ?_
  dsimp only at kp2 sz2 kp3 hIn sz3 ⊢
  have hI1 : h₁.get? I = none := by
    cases e : h₁.get? I with
    | none => rfl
    | some o => rw [kp2 _ _ e] at hIn; cases hIn
  have kp13 : ∀ b o, h₁.get? b = some o → h3.get? b = some o := fun b o e => kp3 b o (kp2 b o e)
  refine ⟨I, _, _, _, _, _, fun C D i ys H => ∃ its : List It, ys = its.map (fun i => Value.ref i.tup) ∧ its.map itData = (items0 texts).take i ∧ ∀ it ∈ its, ItAt H it ∧ it.tup ∉ [C, D, I, L] ∧ it.pl ∉ [C, D, I, L], rfl, Src.range (hhd _) _ _ I texts.length, by omega, hit3, ?fp, kp13, ?wr, Nat.le_trans sz2 sz3, ?ok, ?fin⟩
  case fp => intro x hx; rw [List.mem_singleton.mp hx]; exact hIl
  case wr => intro x hx; rw [List.mem_singleton.mp hx]; exact hI1
  case ok =>
    refine ⟨fun C D => ⟨[], rfl, by simp, fun it hi => nomatch hi⟩, ?_, ?_⟩
    · rintro C D i ys H H' ⟨its, e1, e2, e3⟩ k
      refine ⟨its, e1, e2, fun it hi => ?_⟩
      obtain ⟨⟨a1, a2, a3⟩, b1, b2⟩ := e3 it hi
      have kk : ∀ x o, x ∉ [C, D, I, L] → H.get? x = some o → H'.get? x = some o := fun x o nb e => k x o (fun ea => nb (by simp [ea])) (fun ea => nb (by simp [ea])) (fun ea => nb (by simp [List.mem_singleton.mp ea])) e
      exact ⟨⟨kk _ _ b1 a1, kk _ _ b2 a2, a3⟩, b1, b2⟩
    · rintro C D i v ys m2 H tkH E2 hi ⟨t2, rfl⟩ ⟨its, e1, e2, e3⟩ F hD hCD hDo hwo
      refine wpAny_assign_Name (store_keeps F rfl rfl fun h4 tk4 F4 kp4 => ?_)
      replace F4 : Fr h₁ C h4 _ := F4
      replace kp4 : ∀ b o, b ≠ C → H.get? b = some o → h4.get? b = some o := kp4
      refine wpAny_tests_nil ?_
      rw [if_pos rfl]
      obtain ⟨tt, hti⟩ : ∃ tt, tv[i]? = some tt := ⟨tv[i]'(by omega), List.getElem?_eq_getElem (by omega)⟩
      obtain ⟨tx, ttk, htx, rfl⟩ := StrsAre.get' htv hti
      refine wpAny_Tuple_spliced (sp_cons ?_)
      show wpAny _ _ (PySem.eval (PySem.Expr.Subscript _ _ _) _) _ _ _
      refine Subscript_ ?_
      refine x_cell (isCell_at hct fun o e => F4.keep _ o e) ?_ rfl rfl rfl
      refine rname_L F4.ns (show _ = some (Value.int (i : Int) t2) from rfl) ?_ rfl rfl
      refine item_listL (hlt1.at fun o e => F4.keep _ o e) (by omega) (by omega) (by rw [Int.toNat_natCast]; exact hti) ?_
      refine sp_cons ?_
      refine wpAny_List_spliced (sp_cons ?_)
      refine rname_L F4.ns (show _ = some (Value.int (i : Int) t2) from rfl) ?_ rfl rfl
      refine sp_nil ⟨(by show 1 ≤ sizeLine; decide), ?_⟩
      refine sp_nil ⟨(by show 2 ≤ sizeLine; decide), ?_⟩
      dsimp only
      have ex4 : ∀ x ∈ [C, D, I, L], ∃ o, h4.get? x = some o := ex_cons (let ⟨o, _, _, e, _⟩ := F4.ns; ⟨o, e⟩) kp4 fun x hx => by
        simp only [List.mem_cons, List.not_mem_nil, or_false] at hx
        rcases hx with rfl | rfl | rfl
        · exact hDo
        · exact hwo _ (List.mem_singleton.mpr rfl)
        · obtain ⟨o, _, _, e, _⟩ := F1.ns; exact ⟨o, F.keep _ _ e⟩
      have hl5 : (h4.push { cls := .type "list", data := .seq [Value.int (i : Int) t2].toArray }).get? h4.objs.size = some (listOf [Value.int (i : Int) t2].toArray 0) := Heap.get?_push_size _ rfl
      have kp5 : ∀ b o, h4.get? b = some o → (h4.push { cls := .type "list", data := .seq [Value.int (i : Int) t2].toArray }).get? b = some o := fun b o e => Heap.get?_push_of_some _ e
      have hlb := fresh_bad (x := h4.objs.size) ex4 (Heap.get?_none_of_le (Nat.le_refl _))
      generalize h4.push { cls := .type "list", data := .seq [Value.int (i : Int) t2].toArray } = h5 at hl5 kp5 ⊢
      generalize h4.objs.size = la at hl5 hlb ⊢
      have hTb := fresh_bad (x := h5.objs.size) (ex_keeps kp5 ex4) (Heap.get?_none_of_le (Nat.le_refl _))
      have hT6 : (h5.push { cls := .type "tuple", data := .seq [Value.str tx ttk, Value.ref la].toArray }).get? h5.objs.size = some { cls := .type "tuple", data := .seq #[.str tx ttk, .ref la] } := Heap.get?_push_size _ rfl
      have kp6 : ∀ b o, h5.get? b = some o → (h5.push { cls := .type "tuple", data := .seq [Value.str tx ttk, Value.ref la].toArray }).get? b = some o := fun b o e => Heap.get?_push_of_some _ e
      generalize h5.push { cls := .type "tuple", data := .seq [Value.str tx ttk, Value.ref la].toArray } = h6 at hT6 kp6 ⊢
      generalize h5.objs.size = Tp at hT6 hTb ⊢
      have kk : ∀ x o, x ∉ [C, D, I, L] → H.get? x = some o → h6.get? x = some o := fun x o nb e => kp6 x o (kp5 x o (kp4 x o (fun ea => nb (by simp [ea])) e))
      refine ⟨h6, _, _, rfl, ⟨its ++ [⟨Tp, tx, ttk, la, [Value.int (i : Int) t2], 0, [(i : Int)], 0⟩], by rw [e1, List.map_append]; rfl, ?_, fun it hit => ?_⟩, F4.ns.at' fun o e => kp6 _ o (kp5 _ o e), fun b o nb e => kp6 b o (kp5 b o (kp4 b o nb e))⟩
      · rw [take_snoc (x := (tx, [(i : Int)])) (by
          unfold items0
          rw [List.getElem?_map, List.getElem?_range hi]
          simp [List.getD_eq_getElem?_getD, htx]), List.map_append, e2]
        rfl
      · rcases List.mem_append.mp hit with hit | hit
        · obtain ⟨⟨a1, a2, a3⟩, b1, b2⟩ := e3 it hit
          exact ⟨⟨kk _ _ b1 a1, kk _ _ b2 a2, a3⟩, b1, b2⟩
        · rw [List.mem_singleton.mp hit]
          exact ⟨⟨hT6, kp6 _ _ hl5, .cons _ t2 .nil⟩, hTb, hlb⟩
  case fin =>
    rintro C D h7 tk7 ys hD hC hDC ⟨mC, hnC⟩ hl7 hyl ⟨its, e1, e2, e3⟩ kp7
    subst e1
    have F7 : Fr c₀ L h7 _ := F1.keeps kp7
    refine store_keeps F7 rfl rfl fun h8 tk8 F8 kp8 => ?_
    replace F8 : Fr c₀ L h8 _ := F8
    replace kp8 : ∀ b o, b ≠ L → h7.get? b = some o → h8.get? b = some o := kp8
    obtain ⟨oL, esL, epL, eL, dL⟩ := F1.ns
    have hCL : C ≠ L := fun ea => by rw [ea, eL] at hC; cases hC
    have hDL : D ≠ L := fun ea => by rw [ea, eL] at hD; cases hD
    refine ⟨⟨mC, hnC.at' fun o e => kp8 C o hCL e⟩, fun h9 kp9 => ?_⟩
    have k19 : ∀ b o, b ≠ L → h₁.get? b = some o → h9.get? b = some o := fun b o nb e => kp9 b o (fun ea => by rw [ea, hC] at e; cases e) (kp8 b o nb (kp7 b o e))
    have F9 : Fr c₀ L h9 _ := ⟨F8.ns.at' fun o e => kp9 _ o (Ne.symm hCL) e, fun a o e => k19 a o (hoL a o (KP a o e)) (hk0 a o e), F8.above⟩
    have hL1 : (L + 1 : Addr) ≠ L := cell_ne0 (by decide)
    have hct9 : h9.IsCell (L + 1) (some (.ref lt)) := isCell_at hct fun o e => k19 _ o hL1 e
    have hl9 : h9.IsList D (its.map fun i => Value.ref i.tup).toArray := ⟨_, kp9 _ _ hDC (kp8 _ _ hDL hl7), rfl, _, rfl⟩
    have its9 : ∀ it ∈ its, ItAt h9 it := fun it hi => by
      obtain ⟨⟨a1, a2, a3⟩, b1, b2⟩ := e3 it hi
      have kk : ∀ x o, x ∉ [C, D, I, L] → h7.get? x = some o → h9.get? x = some o := fun x o nb e => kp9 x o (fun ea => nb (by simp [ea])) (kp8 x o (fun ea => nb (by simp [ea])) e)
      exact ⟨kk _ _ b1 a1, kk _ _ b2 a2, a3⟩
    have kh9 : ∀ a o, h.get? a = some o → h9.get? a = some o := fun a o e => k19 a o (hoL a o e) (kh1 a o e)
    have t57 := hP57.keeps kh9
    have t90 := hP90.keeps kh9
    rw [List.take_of_length_le (by simp [items0])] at e2
    have mm : ∃ m, Fr c₀ L h9 m ∧ m "items" = some (.ref D) ∧ m "probes" = some (.ref lp) ∧ m "widths" = some (.ref lw) := ⟨_, F9, rfl, rfl, rfl⟩
    obtain ⟨m9, F9, mi9, mp9, mw9⟩ := mm
    clear F8 F7 kp7 kp8 kp9 k19 hl7 hnC e3 hD hC hDC hCL hDL
    dsimp only
    have h57L : (57 : Nat) ≠ L := by rcases hP57 with e | ⟨_, e, _⟩ <;> exact hoL _ _ e
    have h90L : (90 : Nat) ≠ L := by rcases hP90 with e | ⟨_, e, _⟩ <;> exact hoL _ _ e
    have hheld := held_ok htl htn hgood
    refine x_cons (for_list (l := lw) (its := wv.toArray) (hhd _) (fun I i s => ∃ H tks m its li, s = ⟨H, g, d, tks, os⟩ ∧ JL c₀ h L lt lp I texts ws i H m its li) ?hiter ?stable ?turn ?done ?hs)
    case hs => intro x; rfl
    case hiter =>
      refine rname_L F9.ns mw9 ⟨rfl, hlw.at fun o e => kh9 lw o e, fun I h' kp hI => ?_⟩ rfl rfl
      have hI9 : h.get? I = none := by
        cases e : h.get? I with
        | none => rfl
        | some o =>
          have := kh9 _ _ e
          rw [hI] at this
          rw [Heap.get?_none_of_le (Nat.le_refl _)] at this; cases this
      exact ⟨h', _, m9, its, D, rfl, ⟨F9.keeps kp, mi9, mp9, isCell_at hct9 fun o e => kp _ o e, t57.keeps kp, t90.keeps kp, fun a o _ _ e => kp a o (kh9 a o e), hI9, hl9.at fun o e => kp _ o e, fun it hi => itAt_sc (its9 it hi) (keepSC_full kp), e2⟩⟩
    case stable =>
      rintro I i s h' tk' ⟨H, tks, m, its, li, rfl, j⟩ hIo kp
      have sc := keepSC_I hIo kp
      have hIL : L ≠ I := fun ea => by
        obtain ⟨oI, eI, hc, x, jj, hd⟩ := hIo
        obtain ⟨o, es, ep, e, hd2, _⟩ := j.F.ns
        rw [ea] at e; rw [eI] at e; cases e; rw [hd] at hd2; cases hd2
      have ni : ∀ a o, h.get? a = some o → a ≠ I := fun a o e ea => by rw [ea, j.hI] at e; cases e
      exact ⟨h', tk', m, its, li, rfl, { j with F := ⟨j.F.ns.at' fun o e => kp L o hIL e, fun a o e => kp a o (ni a o (KP a o e)) (j.F.keep a o e), j.F.above⟩, ct := isCell_sc j.ct sc, t57 := tabSt_sc j.t57 sc, t90 := tabSt_sc j.t90 sc, old := fun a o n1 n2 e => kp a o (ni a o e) (j.old a o n1 n2 e), li_ := isList_sc j.li_ sc, at_ := fun it hi => itAt_sc (j.at_ it hi) sc }⟩
    case turn =>
      rintro I i v s E' hv ⟨H, tks, m, its, li, rfl, j⟩ lI hIo hlwH
      rw [List.getElem?_toArray] at hv
      obtain ⟨n, tn, hni, rfl⟩ := intsGet hwv hv
      have hile : i ≤ ws.length := Nat.le_of_lt (List.getElem?_eq_some_iff.mp hni).1
      obtain ⟨hk1, hk2, hk3⟩ := hheld i hile
      have oL : ∀ {H : Heap} {m' : Str → Option Value}, H.Ns L m' → ∃ o, H.get? L = some o := fun ⟨o, _, _, e, _⟩ => ⟨o, e⟩
      obtain ⟨oI, eI, cI⟩ := hIo
      have hIL : I ≠ L := fun ea => by
        obtain ⟨o, es, ep, e, hd2, _⟩ := j.F.ns
        obtain ⟨_, x, jj, hd⟩ := cI
        rw [ea, e] at eI; cases eI; rw [hd] at hd2; cases hd2
      have hI57 : I ≠ 57 ∧ I ≠ 90 := ⟨(fun ea => by rcases hP57 with e | ⟨_, e, _⟩ <;> (have := j.hI; rw [ea, e] at this; cases this)), (fun ea => by rcases hP90 with e | ⟨_, e, _⟩ <;> (have := j.hI; rw [ea, e] at this; cases this))⟩
      refine wpAny_assign_Name (store_keeps j.F rfl rfl fun H2 tk2 F2 kp2 => ?_)
      replace F2 : Fr c₀ L H2 _ := F2
      replace kp2 : ∀ b o, b ≠ L → H.get? b = some o → H2.get? b = some o := kp2
      have sc2 := keepSC_L j.F.ns kp2
      -- book = _law_filed(items, width)
      refine x_cons (x_assign (x_call_name ?_) rfl)
      refine x_global (X.keeps F2.keep) (T.keeps F2.keep) (by k_is) ?_ rfl rfl rfl
      refine callWith_args rfl (sp_cons ?_)
      refine rname_L F2.ns (show _ = some (Value.ref li) from j.mi) ?_ rfl rfl
      refine sp_cons ?_
      refine rname_L F2.ns (show _ = some (Value.int n tn) from rfl) ?_ rfl rfl
      refine sp_nil ⟨⟨Keeper.frame, (Looks.ld ((X.keeps F2.keep) 95 _ (by k_is))).andThen .now, by decide⟩, ?_⟩
      have hsz2 : c₀.objs.size ≤ H2.objs.size := Nat.le_trans F2.above (Nat.le_of_lt F2.ns.lt)
      have hits : ∀ it ∈ its, itData it ∈ heldF texts ws i := fun it hi => by rw [← j.data]; exact List.mem_map_of_mem hi
      have hilen : its.length ≤ 60 := by have := congrArg List.length j.data; rw [List.length_map] at this; omega
      have hsumB : sumB its ≤ 500 := by have := sumB_data its; rw [j.data] at this; omega
      refine filed_spec (n := n) X T F2.keep hsz2 n57 n90 C61 C94 (tabSt_sc j.t57 sc2) (tabSt_sc j.t90 sc2) (show A.depth + 1 + 10 < recursionLimit by omega) (by rw [units_deeper]; omega) (hhd _) (isList_sc j.li_ sc2) (fun it hi => itAt_sc (j.at_ it hi) sc2) (fun it hi => hk1 _ (hits it hi)) (by omega) hsumB ?_
      intro b dx rows ep lf H3 tk3 kp3 Z3 lists3 hbn hsm hdata t57' t90'
      have hdataN : rows.map rowData = heldF texts ws (i + 1) := by rw [hdata, j.data, heldF_succ hni]
      have G := hgood i n hni
      rw [← hdataN] at G
      have F3 : Fr c₀ L H3 _ := ⟨F2.ns.at' fun o e => kp3 L o (Ne.symm h57L) (Ne.symm h90L) e, fun a o e => kp3 a o (fun ea => by rw [ea, n57] at e; cases e) (fun ea => by rw [ea, n90] at e; cases e) (F2.keep a o e), F2.above⟩
      obtain ⟨oL2, eL2⟩ := oL F2.ns
      have hbL : b ≠ L := fun ea => by rw [ea, eL2] at hbn; cases hbn
      refine store_keeps F3 rfl rfl fun H4 tk4 F4 kp4 => ?_
      replace F4 : Fr c₀ L H4 _ := F4
      replace kp4 : ∀ b o, b ≠ L → H3.get? b = some o → H4.get? b = some o := kp4
      have sc4 := keepSC_L F3.ns kp4
      have Z4 := frozen_L Z3 F3.ns (show _ = some (Value.ref li) from j.mi) hbL kp4
      have lists4 := rowsAt_sc lists3 sc4
      have old4 : ∀ a o, a ≠ 57 → a ≠ 90 → h.get? a = some o → H4.get? a = some o := fun a o n1 n2 e => kp4 a o (hoL a o e) (kp3 a o n1 n2 (kp2 a o (hoL a o e) (j.old a o n1 n2 e)))
      have hneT : ∀ {a : Addr} {o : Obj}, h.get? a = some o → (∀ vs, o.data ≠ .fields vs) → a ≠ 57 ∧ a ≠ 90 := fun {a o} e hd => ⟨(fun ea => by rcases hP57 with e' | ⟨_, e', _⟩ <;> (rw [ea, e'] at e; cases e; exact hd _ rfl)), (fun ea => by rcases hP90 with e' | ⟨_, e', _⟩ <;> (rw [ea, e'] at e; cases e; exact hd _ rfl))⟩
      have oldL : ∀ {l : Addr} {its : Array Value}, h.IsList l its → H4.IsList l its := fun {l its} ⟨o, e, hc, nn, hd⟩ => ⟨o, old4 _ _ (hneT e (by intro vs; rw [hd]; simp)).1 (hneT e (by intro vs; rw [hd]; simp)).2 e, hc, nn, hd⟩
      have hct4 : H4.IsCell (L + 1) (some (.ref lt)) := by
        have h2 := isCell_sc j.ct sc2
        obtain ⟨o, e, hd⟩ := h2
        exact ⟨o, kp4 _ _ (cell_ne0 (by decide)) (kp3 _ _ (fun ea => by rw [ea] at e; rcases (tabSt_sc j.t57 sc2) with e' | ⟨_, e', _⟩ <;> (rw [e'] at e; cases e; cases hd)) (fun ea => by rw [ea] at e; rcases (tabSt_sc j.t90 sc2) with e' | ⟨_, e', _⟩ <;> (rw [e'] at e; cases e; cases hd)) e), hd⟩
      have eI4 : H4.get? I = some oI := kp4 _ _ hIL (kp3 _ _ hI57.1 hI57.2 (kp2 _ _ hIL eI))
      clear kp4 lists3 Z3 kp3 sc2
      -- if not _law_right(..)
      refine x_cons (wpAny_If (wpAny_isTrue_Not (wpAny_isTrue_value ?_)))
      refine x_call_name (x_global (X.keeps F4.keep) (T.keeps F4.keep) (by k_is) ?_ rfl rfl rfl)
      refine callWith_args rfl (sp_cons ?_)
      refine x_cell hct4 ?_ rfl rfl rfl
      refine sp_cons ?_
      refine rname_L F4.ns (show _ = some (Value.ref lp) from j.mp) ?_ rfl rfl
      refine sp_cons ?_
      refine rname_L F4.ns (show _ = some (Value.ref b) from rfl) ?_ rfl rfl
      refine sp_cons ?_
      refine rname_L F4.ns (show _ = some (Value.int n tn) from rfl) ?_ rfl rfl
      refine sp_nil ⟨⟨Keeper.frame, (Looks.ld ((X.keeps F4.keep) 88 _ (by k_is))).andThen .now, by decide⟩, ?_⟩
      refine right_spec (X.keeps F4.keep) (T.keeps F4.keep) (show A.depth + 1 + 12 < recursionLimit by omega) (by rw [units_deeper]; omega) (hhd _) (oldL hlt) htv htl (by omega) (oldL hlp) hpv hpl (by omega) hsm Z4 lists4 G fun H5 tk5 kp5 => ?_
      refine wpAny_truthy_bool ?_
      show wpAny _ _ (execs [] _) _ _ _
      refine x_nil ?_
      dsimp only
      have F5 : Fr c₀ L H5 _ := F4.keeps kp5
      have Z5 := Z4.keeps kp5
      have lists5 := lists4.keeps kp5
      -- items = list(book.items())
      refine x_cons (x_assign (x_call_name (x_builtin (X.keeps F5.keep) (T.keeps F5.keep) (by k_is) (by boot_fast) (by decide) ?_ rfl rfl rfl rfl)) rfl)
      refine callWith_args rfl (sp_cons ?_)
      show wpAny _ _ (PySem.eval (PySem.Expr.Call _ _ _ _) _) _ _ _
      refine meth0 rfl rfl ?_
      refine rname_L F5.ns (show _ = some (Value.ref b) from rfl) ?_ rfl rfl
      obtain ⟨hs5, tkf5, l25, hdx5, -⟩ := Z5.dict
      refine items_method (X.keeps F5.keep) Z5.book hdx5 rfl ?_
      refine callWith_none (kp := .machine) (Looks.of_pure rfl) (by decide) ?_
      refine items_call (X.keeps F5.keep) hsm Z5.book ?_
      refine sp_nil ⟨⟨Keeper.machine, Looks.of_pure rfl, by decide⟩, ?_⟩
      have hrl : (rows.map (entryOf w)).toArray.size ≤ 1000 := by
        have := G.rlen
        rw [List.length_map] at this
        rw [List.size_toArray, List.length_map]; omega
      refine items_list (hhd _) (Heap.get?_push_size _ rfl) (Heap.get?_push_of_some _ Z5.book) hrl fun S H6 tk6 acc cc as kp6 hS6 hacc htup => ?_
      replace kp6 : ∀ x o, H5.get? x = some o → H6.get? x = some o := fun x o e => kp6 x o (Heap.get?_push_of_some _ e)
      have F6 : Fr c₀ L H6 _ := F5.keeps kp6
      have lists6 := lists5.keeps kp6
      obtain ⟨its6, a1, a2, a3⟩ := its_of htup lists6.at_
      refine store_keeps F6 rfl rfl fun H7 tk7 F7 kp7 => ?_
      replace F7 : Fr c₀ L H7 _ := F7
      replace kp7 : ∀ b o, b ≠ L → H6.get? b = some o → H7.get? b = some o := kp7
      have sc7 := keepSC_L F6.ns kp7
      have kp46 : ∀ x o, H4.get? x = some o → H6.get? x = some o := fun x o e => kp6 x o (kp5 x o e)
      have hS6l : H6.IsList S (its6.map fun i => Value.ref i.tup).toArray := by
        rw [a1, ← hacc, Array.toArray_toList]
        exact ⟨_, hS6, rfl, _, rfl⟩
      refine x_nil ⟨⟨H7, _, _, its6, S, rfl, ⟨F7, rfl, j.mp, isCell_at hct4 fun o e => kp7 _ o (cell_ne0 (by decide)) (kp46 _ o e), tabSt_sc (tabSt_sc (tabSt_sc t57' sc4) (keepSC_full kp46)) sc7, tabSt_sc (tabSt_sc (tabSt_sc t90' sc4) (keepSC_full kp46)) sc7, fun a o n1 n2 e => kp7 a o (hoL a o e) (kp46 a o (old4 a o n1 n2 e)), j.hI, isList_sc hS6l sc7, fun it hi => itAt_sc (a3 it hi) sc7, by rw [a2, hdataN]⟩⟩, fun o e => ?_, ?_⟩
      · rw [eI] at e; cases e
        exact kp7 _ _ hIL (kp46 _ _ eI4)
      · exact isList_sc (isList_sc (oldL hlw) (keepSC_full kp46)) sc7
    case done =>
      rintro I s ⟨H, tks, m, its, li, rfl, j⟩
      refine x_cons (x_ret (wpAny_Constant_bool ?_))
      exact q H _ j.old j.t57 j.t90
end
end Mine
end

section
open PySem PySem.W PySem.Calls PyProof.Rows
namespace Mine
set_option maxRecDepth 100000
set_option maxHeartbeats 2000000

section
variable {prog : Program} {w : World} {A : Around} {E : Value → Shared → Prop} {s : Shared} {env : Env}

theorem for_range {x : Str} {px : Pos} {iter : PySem.Expr} {body : List Stmt} {pos : Pos} {Q : Flow → Shared → Prop} {n : Nat} (hh : A.handled = none) (hn : n ≤ 1000)
    (J : Addr → Nat → Shared → Prop)
    (hiter : wpAny (model prog w) A (eval iter env) (fun v s₁ => ∃ r u t w', v = .ref r ∧ IsRange s₁.heap r 0 (n : Int) 1 u t w' ∧ ∀ I h', (∀ b o, s₁.heap.get? b = some o → h'.get? b = some o) → s₁.heap.get? I = none → J I 0 { s₁ with heap := h' }) E s)
    (stable : ∀ I i s h' tk, J I i s → (∀ b o, b ≠ I → s.heap.get? b = some o → h'.get? b = some o) → J I i { s with heap := h', toks := tk })
    (turn : ∀ I i t s (E' : Value → Shared → Prop), i < n → J I i s →
      wpAny (model prog w) A (assign (.Name x px) env (.int (i : Int) t)) (fun _ s₂ => wpAny (model prog w) A (execs body env) (fun f s₃ => match f with
        | .next | .cont => J I (i + 1) s₃ ∧ (∀ o, s.heap.get? I = some o → s₃.heap.get? I = some o)
        | .brk => Q .next s₃
        | .ret v => Q (.ret v) s₃) E' s₂) E' s)
    (done : ∀ I s, J I n s → Q .next s)
    (hs : ∀ x, foldedSetIterable iter env x = pure x) :
    wpAny (model prog w) A (exec (.For (.Name x px) iter body [] pos) env) Q E s := by
  refine wpAny_For (wpAny_mono hiter (fun v s₁ hv => ?_) fun _ _ e => e) hs
  obtain ⟨r, u, t, w', rfl, hr, hJ⟩ := hv
  refine range_iter hn hr fun I h' kp hIn hIl _ hit => ?_
  have hJ0 := hJ I h' kp hIn
  have W := Walks.range (prog := prog) (w := w) (A := A) hh I 0 1 n
  refine codeAny_forLoop_any (fun k s' => ∃ i, i ≤ n ∧ k = n + 1 - i ∧ IsRangeIter s'.heap I (0 + (i : Nat) * 1) ((n : Int) - (i : Nat)) 1 ∧ J I i s') ?_ (n + 1) ⟨0, Nat.zero_le _, rfl, hit, hJ0⟩
  rintro k s' ⟨i, hi, rfl, hit', hJ'⟩
  by_cases hlt : i < n
  · refine W.item i _ _ _ hlt hit' fun v h₂ tk₂ hPv hst₂ hk₂ => ?_
    obtain ⟨t2, rfl⟩ := hPv
    have hJ2 := stable I i s' h₂ tk₂ hJ' (fun b o nb e => hk₂ b o (by simpa using nb) e)
    refine wpAny_of_eq (show letOwnedTupleGo (.Name x px) (.ref I) _ = pure () from rfl) ?_
    have tn := turn I i t2 { s' with heap := h₂, toks := tk₂ }
    rw [show (i : Int) = 0 + (i : Int) * 1 by omega] at tn
    refine wpAny_mono (tn _ hlt hJ2) (fun _ s₂ hb2 => wpAny_mono hb2 (fun f s₃ h₃ => ?_) fun _ _ e => e) fun _ _ e => e
    have fin : (J I (i + 1) s₃ ∧ (∀ o, h₂.get? I = some o → s₃.heap.get? I = some o)) → ∃ m, m < n + 1 - i ∧ ∃ i, i ≤ n ∧ m = n + 1 - i ∧ IsRangeIter s₃.heap I (0 + (i : Nat) * 1) ((n : Int) - (i : Nat)) 1 ∧ J I i s₃ := fun ⟨a, b⟩ =>
      ⟨n + 1 - (i + 1), by omega, i + 1, hlt, rfl, b _ hst₂, a⟩
    cases f with
    | next => exact fin h₃
    | cont => exact fin h₃
    | brk => exact h₃
    | ret v => exact h₃
  · obtain rfl : i = n := Nat.le_antisymm hi (Nat.not_lt.mp hlt)
    refine W.done _ _ _ hit' fun h₂ tk₂ hk₂ => ?_
    exact wpAny_pure (done I _ (stable I _ s' h₂ tk₂ hJ' (fun b o nb e => hk₂ b o (by simpa using nb) e)))
end

theorem sapp (a b : Str) : (a ++ b).length = a.length + b.length := by
  show (a.cps ++ b.cps).size = _
  simp [Str.length]
theorem join_len : ∀ ts : List Str, (∀ t ∈ ts, t.length = 1) → (Str.join ("" : Str) ts).length = ts.length
  | [], _ => rfl
  | [x], h => h x List.mem_cons_self
  | x :: y :: r, h => by
    have ih := join_len (y :: r) fun t ht => h t (List.mem_cons_of_mem _ ht)
    show (x ++ ("" : Str) ++ Str.join ("" : Str) (y :: r)).length = _
    rw [sapp, sapp, ih, h x List.mem_cons_self]
    show 1 + 0 + (r.length + 1) = r.length + 1 + 1
    omega
theorem join_ok {ts : List Str} (h : ∀ t ∈ ts, t = ("a" : Str) ∨ t = ("." : Str) ∨ t = ("b" : Str)) : (Txt.join ("" : Str) ts).length = ts.length ∧ Txt.join ("" : Str) ts ≠ ("#" : Str) := by
  have h1 := join_len ts fun t ht => by rcases h t ht with e | e | e <;> rw [e] <;> rfl
  rw [show Txt.join ("" : Str) ts = Str.join ("" : Str) ts from PySem.StrLaws.glued_eq_join _ _]
  refine ⟨h1, fun e => ?_⟩
  rw [e] at h1
  match ts, h1, h, e with
  | [t], _, h, e =>
    have e' : t = ("#" : Str) := e
    rcases h t List.mem_cons_self with e2 | e2 | e2 <;> (rw [e'] at e2; revert e2; decide)

section
variable {w : World} {A : Around} {E : Value → Shared → Prop} {h : Heap} {g : Array GenState} {d : Drawn} {tk : Nat} {os : OsState}
variable {p : Program} {loose : List Str} {mean : ExcName → Option Value} {mg mb : Str → Option Value}
theorem fillFrag_LText (w : World) : hd.heap_39 w.params = hd.heap_39 w.params ∧ PySem.Challenge.rw_il0158_01 = PySem.Challenge.rw_il0158_01 := by k_fill; exact ⟨rfl, rfl⟩

theorem item_str_any {prog : Program} {s : Shared} {value slice : PySem.Expr} {x : Str} {t : Tok} {i : Int} {u : Tok} {Q : Value → Shared → Prop} (hr : fitsSsize i = true) (h1 : -(x.length : Int) ≤ i) (h2 : i < x.length) (h : ∀ t' k, Q (.str (Txt.item x i) t') { s with toks := k })
    (hs : subscripted slice false (.str x t) (.int i u) = operate [.str x t, .int i u] (getItem (.str x t) (.int i u)) := by with_unfolding_all rfl)
    (ht : ∀ r, letTemporaryGo value (.str x t) r = pure () := by intro _; with_unfolding_all rfl) :
    wpAny (model prog w) A (subscriptTail value slice (.str x t) (.int i u)) Q E s := item_str hr h1 h2 (fun _ => h _ _) hs ht
theorem StrsAre.snoc' : ∀ {vs : List Value} {ts : List Str} {y : Str} {t : Tok}, StrsAre vs ts → StrsAre (vs ++ [.str y t]) (ts ++ [y])
  | _, _, y, t, .nil => .cons y t .nil
  | _, _, y, t, .cons a b r => .cons a b (StrsAre.snoc' r)
theorem text_spec {x : Int} {tx : Tok} {Q : Value → Shared → Prop} (X : (hd.heap_39 w.params).In h) (T : Top p loose mean mg mb h) (hroom : A.depth + 2 < recursionLimit) (hh : A.handled = none)
    (q : ∀ (t : Str) h' tk' tr, (∀ a o, h.get? a = some o → h'.get? a = some o) → t.length ≤ 10 → t ≠ ("#" : Str) → Q (.str t tr) ⟨h', g, d, tk', os⟩) :
    wpAny (model PP w) A (call (.ref 76) [.int x tx]) Q E ⟨h, g, d, tk, os⟩ := by
  refine wpAny_call ?_
  refine' enter0 X T ?k6 ?k7 ?k8 ?k9 ?kB ?_ ?c1 ?c2 ?c3 ?c4
  case k6 => k_is
  case k7 => k_is
  case k8 => omega
  case k9 => exact BindsTo.of_eq rfl
  case kB => exact locs rfl
  case c1 => decide
  case c2 => exact rfl
  case c3 => exact rfl
  case c4 => exact rfl
  have hhd : ∀ env, (A.deeper env).handled = none := fun _ => hh
  intro L h₁ F'
  dsimp only at F' ⊢
  refine x_cons (x_assign (wpAny_List_spliced (sp_nil ⟨by decide, ?_⟩)) rfl)
  have hl2 : (h₁.push { cls := .type "list", data := .seq ([] : List Value).toArray }).get? h₁.objs.size = some (lst []) := Heap.get?_push_size _ rfl
  have kp2 : ∀ b o, h₁.get? b = some o → (h₁.push { cls := .type "list", data := .seq ([] : List Value).toArray }).get? b = some o := fun b o e => Heap.get?_push_of_some _ e
  have hlL : h₁.objs.size ≠ L := Nat.ne_of_gt F'.ns.lt
  have hln : h.get? h₁.objs.size = none := by
    cases e : h.get? h₁.objs.size with
    | none => rfl
    | some o => exact absurd (Heap.lt_size (F'.keep _ _ e)) (Nat.lt_irrefl _)
  dsimp only
  generalize h₁.push { cls := .type "list", data := .seq ([] : List Value).toArray } = h₂ at hl2 kp2 ⊢
  generalize h₁.objs.size = l at hl2 hlL hln ⊢
  refine store_keeps (F'.keeps kp2) rfl rfl fun h3 tk3 F3 kp3 => ?_
  replace F3 : Fr h L h3 _ := F3
  replace kp3 : ∀ b o, b ≠ L → h₂.get? b = some o → h3.get? b = some o := kp3
  have hl3 := kp3 _ _ hlL hl2
  refine x_cons (x_assign (wpAny_BinOp ?_) rfl)
  refine wpAny_BinOp ?_
  refine rname_L F3.ns (show _ = some (Value.int x tx) from rfl) ?_ rfl rfl
  refine wpAny_Constant_int ?_
  refine floordiv_int (by decide) ?_ (Or.inl (PyProof.noPylong_of_log2 (by decide +kernel)))
  refine wpAny_Constant_int ?_
  refine PyProof.Rows.mod_int (by decide) ?_
  dsimp only
  refine store_keeps F3 rfl rfl fun h4 tk4 F4 kp4 => ?_
  replace F4 : Fr h L h4 _ := F4
  replace kp4 : ∀ b o, b ≠ L → h3.get? b = some o → h4.get? b = some o := kp4
  have hl4 := kp4 _ _ hlL hl3
  have hm0 : 0 ≤ x.fmod 11 := Int.fmod_nonneg_of_pos _ (by decide)
  have hm1 : x.fmod 11 < 11 := Int.fmod_lt_of_pos _ (by decide)
  have hmn : x.fmod 11 = ((x.fmod 11).toNat : Int) := (Int.toNat_of_nonneg hm0).symm
  refine x_cons (for_range (n := (x.fmod 11).toNat) (hhd _) (by omega) (fun I i s => ∃ H tks m vs ts r tr, s = ⟨H, g, d, tks, os⟩ ∧ Fr h L H m ∧ m "signs" = some (.ref l) ∧ m "rest" = some (.int r tr) ∧ H.get? l = some (lst vs) ∧ StrsAre vs ts ∧ (∀ t ∈ ts, t = ("a" : Str) ∨ t = ("." : Str) ∨ t = ("b" : Str)) ∧ vs.length = i ∧ l ≠ I ∧ L ≠ I ∧ h.get? I = none) ?hiter ?stable ?turn ?done ?hs)
  case hs => intro x; rfl
  case hiter =>
    refine x_call_name (x_builtin (X.keeps F4.keep) (T.keeps F4.keep) (by k_is) (by boot_fast) (by decide) ?_ rfl rfl rfl rfl)
    refine callWith_args rfl (sp_cons ?_)
    show wpAny _ _ (PySem.eval (PySem.Expr.BinOp _ _ _ _) _) _ _ _
    refine wpAny_BinOp ?_
    refine rname_L F4.ns (show _ = some (Value.int x tx) from rfl) ?_ rfl rfl
    refine wpAny_Constant_int ?_
    refine PyProof.Rows.mod_int (by decide) ?_
    refine sp_nil ⟨⟨Keeper.machine, Looks.of_pure rfl, by decide⟩, ?_⟩
    rw [hmn]
    refine range_raw fun r h5 tk5 u v kp5 sz5 hr5 => ?_
    refine ⟨r, _, _, _, rfl, hr5, fun I h6 kp6 hIn => ?_⟩
    dsimp only at kp5 kp6 hIn ⊢
    have hI4 : ∀ a o, h4.get? a = some o → a ≠ I := fun a o e ea => by have := kp5 _ _ e; rw [ea, hIn] at this; cases this
    refine ⟨h6, _, _, [], [], _, _, rfl, (F4.keeps kp5).keeps kp6, rfl, rfl, kp6 _ _ (kp5 _ _ hl4), .nil, (fun t ht => nomatch ht), rfl, hI4 _ _ hl4, (by obtain ⟨o, _, _, e, _⟩ := F4.ns; exact hI4 _ _ e), ?_⟩
    cases e : h.get? I with
    | none => rfl
    | some o => exact absurd rfl (hI4 _ _ (F4.keep _ _ e))
  case stable =>
    rintro I i s h' tk' ⟨H, tks, m, vs, ts, r, tr, rfl, F, ms, mr, hl, hv, ht, hn, n1, n2, n3⟩ kp
    exact ⟨h', tk', m, vs, ts, r, tr, rfl, ⟨F.ns.at' fun o e => kp L o n2 e, fun a o e => kp a o (fun ea => by rw [ea, n3] at e; cases e) (F.keep a o e), F.above⟩, ms, mr, kp _ _ n1 hl, hv, ht, hn, n1, n2, n3⟩
  case turn =>
    rintro I i t s E' hi ⟨H, tks, m, vs, ts, r, tr, rfl, F, ms, mr, hl, hv, ht, hn, n1, n2, n3⟩
    refine wpAny_assign_Name (store_keeps F rfl rfl fun h5 tk5 F5 kp5 => ?_)
    replace F5 : Fr h L h5 _ := F5
    replace kp5 : ∀ b o, b ≠ L → H.get? b = some o → h5.get? b = some o := kp5
    have hl5 := kp5 _ _ hlL hl
    refine x_cons (x_expr (x_meth ?_ rfl) rfl rfl)
    show wpAny _ _ (PySem.eval (PySem.Expr.Name _ _) _) _ _ _
    refine rname_L F5.ns (show _ = some (Value.ref l) from ms) ?_ rfl rfl
    refine getMethod_builtin (s := ⟨h5, g, d, tk5, os⟩) ⟨_, hl5, rfl⟩ PySem.F.plainAttrs_list PySem.F.slot_list_append PySem.F.type_list_append (fun a e => by cases e; exact ⟨_, hl5, rfl⟩) ?_
    refine callWith_args rfl (sp_cons ?_)
    show wpAny _ _ (PySem.eval (PySem.Expr.Subscript _ _ _) _) _ _ _
    refine Subscript_ ?_
    refine Calls.Constant_str ?_
    refine wpAny_BinOp ?_
    refine rname_L F5.ns (show _ = some (Value.int r tr) from mr) ?_ rfl rfl
    refine wpAny_Constant_int ?_
    refine PyProof.Rows.mod_int (by decide) ?_
    have r0 : 0 ≤ r.fmod 3 := Int.fmod_nonneg_of_pos _ (by decide)
    have r1 : r.fmod 3 < 3 := Int.fmod_lt_of_pos _ (by decide)
    refine item_str_any (by unfold fitsSsize; simp; omega) (by omega) (show r.fmod 3 < 3 from r1) fun itk tk6 => ?_
    refine sp_nil ⟨⟨Keeper.machine, Looks.of_pure rfl, by decide⟩, ?_⟩
    refine append_at hl5 (hsz := by rw [List.size_toArray, sizeLine_eq]; omega) fun h6 hs6 hl6 => ?_
    have F6 : Fr h L h6 _ := ⟨F5.ns.sameBut hs6 (Ne.symm hlL), fun a o e => hs6.extBut a o (fun ea => by rw [ea, hln] at e; cases e) (F5.keep a o e), F5.above⟩
    refine x_cons (x_assign (wpAny_BinOp ?_) rfl)
    refine rname_L F6.ns (show _ = some (Value.int r tr) from mr) ?_ rfl rfl
    refine wpAny_Constant_int ?_
    refine floordiv_int (by decide) ?_ (Or.inl (PyProof.noPylong_of_log2 (by decide +kernel)))
    refine store_keeps F6 rfl rfl fun h7 tk7 F7 kp7 => ?_
    replace F7 : Fr h L h7 _ := F7
    replace kp7 : ∀ b o, b ≠ L → h6.get? b = some o → h7.get? b = some o := kp7
    have hit : Txt.item ("a.b" : Str) (r.fmod 3) = ("a" : Str) ∨ Txt.item ("a.b" : Str) (r.fmod 3) = ("." : Str) ∨ Txt.item ("a.b" : Str) (r.fmod 3) = ("b" : Str) := by
      have : r.fmod 3 = 0 ∨ r.fmod 3 = 1 ∨ r.fmod 3 = 2 := by omega
      rcases this with e | e | e <;> rw [e] <;> decide
    refine x_nil ⟨⟨h7, _, _, vs ++ [Value.str (Txt.item ("a.b" : Str) (r.fmod 3)) itk], ts ++ [Txt.item ("a.b" : Str) (r.fmod 3)], _, _, rfl, F7, ms, rfl, ?_, ?_, ?_, by rw [List.length_append, hn]; rfl, n1, n2, n3⟩, fun o e => kp7 _ _ (Ne.symm n2) (hs6.extBut _ _ (Ne.symm n1) (kp5 _ _ (Ne.symm n2) e))⟩
    · rw [kp7 _ _ hlL hl6]; simp
    · exact StrsAre.snoc' hv
    · intro t ht'
      rcases List.mem_append.mp ht' with h | h
      · exact ht t h
      · rw [List.mem_singleton.mp h]; exact hit
  case done =>
    rintro I s ⟨H, tks, m, vs, ts, r, tr, rfl, F, ms, mr, hl, hv, ht, hn, n1, n2, n3⟩
    refine x_cons (x_ret (x_meth ?_ rfl))
    show wpAny _ _ (PySem.eval _ _) _ _ _
    refine Calls.Constant_str ?_
    refine getMethod_builtin (s := ⟨H, g, d, _, os⟩) (T := "str") rfl PySem.F.plainAttrs_str PySem.F.slot_str_join PySem.F.type_str_join (fun a e => by cases e) ?_
    refine callWith_args rfl (sp_cons ?_)
    refine rname_L F.ns (show _ = some (Value.ref l) from ms) ?_ rfl rfl
    refine sp_nil ⟨⟨Keeper.machine, Looks.of_pure rfl, by decide⟩, ?_⟩
    show wpAny _ _ (call (.builtin "str.join") [.str _ _, .ref l]) _ _ _
    refine join_listW ⟨_, hl, rfl, _, rfl⟩ hv (by decide) ?hw fun t' k => ?_
    case hw =>
      have h1 : (ts.map (·.length)).sum = ts.length := by
        clear hv hn
        induction ts with
        | nil => rfl
        | cons t r ih =>
          rw [List.map_cons, List.sum_cons, ih fun t ht' => ht t (List.mem_cons_of_mem _ ht'), List.length_cons]
          have : t.length = 1 := by rcases ht t List.mem_cons_self with e | e | e <;> rw [e] <;> rfl
          omega
      have h2 := StrsAre.length' hv
      rw [h1]; omega
    · obtain ⟨j1, j2⟩ := join_ok ht
      have h2 := StrsAre.length' hv
      exact q _ H _ t' F.keep (by rw [j1]; omega) j2
end
end Mine
end

section
open PySem PySem.W PySem.Calls PyProof.Rows
namespace Mine
set_option maxHeartbeats 1000000

/-- r has a place not above any of s -/
def Lead (r s : Str × List Int) : Prop := ∃ p ∈ r.2, ∀ q ∈ s.2, p ≤ q

structure Filed (items : List (Str × List Int)) (n : Int) (acc : List (Str × List Int)) : Prop where
  keys : acc.Pairwise fun r s => r.1 ≠ s.1
  mem : ∀ r ∈ acc, ∀ p, p ∈ r.2 ↔ ∃ it ∈ items, cramF it.1 n = r.1 ∧ p ∈ it.2
  has : ∀ it ∈ items, ∃ r ∈ acc, r.1 = cramF it.1 n
  src : ∀ r ∈ acc, ∃ it ∈ items, r.1 = cramF it.1 n
  lead : acc.Pairwise Lead
  perm : (acc.flatMap (·.2)).Perm (items.flatMap (·.2))

theorem any_key {acc : List (Str × List Int)} {k : Str} : (acc.any fun r => r.1 == k) = true ↔ ∃ r ∈ acc, r.1 = k := by
  simp [List.any_eq_true]

theorem flat_upd {k : Str} {ps : List Int} : ∀ {acc : List (Str × List Int)}, (acc.Pairwise fun r s => r.1 ≠ s.1) → (∃ r ∈ acc, r.1 = k) → ((acc.map fun r => if r.1 == k then (r.1, r.2 ++ ps) else r).flatMap (·.2)).Perm (acc.flatMap (·.2) ++ ps)
  | [], _, h => by obtain ⟨r, hr, _⟩ := h; cases hr
  | a :: l, hk, h => by
    rw [List.pairwise_cons] at hk
    rw [List.map_cons, List.flatMap_cons, List.flatMap_cons]
    by_cases e : a.1 = k
    · have hl : (l.map fun r => if r.1 == k then (r.1, r.2 ++ ps) else r) = l := by
        conv => rhs; rw [← List.map_id l]
        exact List.map_congr_left fun r hr => by
          have : r.1 ≠ k := fun q => hk.1 r hr (e.trans q.symm)
          simp [this]
      rw [hl]
      simp only [e, beq_self_eq_true, if_true]
      rw [List.append_assoc, List.append_assoc]
      exact List.Perm.append_left _ List.perm_append_comm
    · have h' : ∃ r ∈ l, r.1 = k := by
        obtain ⟨r, hr, er⟩ := h
        rcases List.mem_cons.mp hr with rfl | hr
        · exact absurd er e
        · exact ⟨r, hr, er⟩
      have ih := flat_upd (ps := ps) hk.2 h'
      have : (a.1 == k) = false := by simpa using e
      simp only [this, Bool.false_eq_true, if_false]
      rw [List.append_assoc]
      exact List.Perm.append_left _ ih

theorem filed_snoc {items acc : List (Str × List Int)} {n : Int} {it : Str × List Int} (F : Filed items n acc) (hl : ∀ i ∈ items, Lead i it) : Filed (items ++ [it]) n (addTo acc (cramF it.1 n) it.2) := by
  unfold addTo
  have lead_row : ∀ r ∈ acc, ∃ p ∈ r.2, ∀ q ∈ it.2, p ≤ q := fun r hr => by
    obtain ⟨i, hi, e⟩ := F.src r hr
    obtain ⟨p, hp, hq⟩ := hl i hi
    exact ⟨p, (F.mem r hr p).mpr ⟨i, hi, e.symm, hp⟩, hq⟩
  by_cases hk : ∃ r ∈ acc, r.1 = cramF it.1 n
  · rw [if_pos (any_key.mpr hk)]
    have key : ∀ r : Str × List Int, (if r.1 == cramF it.1 n then (r.1, r.2 ++ it.2) else r).1 = r.1 := fun r => by split <;> rfl
    refine ⟨?_, ?_, ?_, ?_, ?_, ?_⟩
    · rw [List.pairwise_map]
      exact F.keys.imp fun h => by rw [key, key]; exact h
    · intro r' hr' p
      obtain ⟨r, hr, rfl⟩ := List.mem_map.mp hr'
      rw [key]
      by_cases e : r.1 = cramF it.1 n
      · simp only [e, beq_self_eq_true, if_true, List.mem_append]
        constructor
        · rintro (h | h)
          · obtain ⟨i, hi, e1, hp⟩ := (F.mem r hr p).mp h
            exact ⟨i, .inl hi, by rw [e1, e], hp⟩
          · exact ⟨it, .inr (List.mem_singleton.mpr rfl), rfl, h⟩
        · rintro ⟨i, hi, e1, hp⟩
          rcases hi with hi | hi
          · exact .inl ((F.mem r hr p).mpr ⟨i, hi, by rw [e1, e], hp⟩)
          · rw [List.mem_singleton.mp hi] at hp; exact .inr hp
      · have : (r.1 == cramF it.1 n) = false := by simpa using e
        simp only [this, Bool.false_eq_true, if_false, List.mem_append]
        rw [F.mem r hr p]
        constructor
        · rintro ⟨i, hi, h⟩; exact ⟨i, .inl hi, h⟩
        · rintro ⟨i, hi, e1, hp⟩
          rcases hi with hi | hi
          · exact ⟨i, hi, e1, hp⟩
          · rw [List.mem_singleton.mp hi] at e1; exact absurd e1.symm e
    · intro i hi
      rcases List.mem_append.mp hi with hi | hi
      · obtain ⟨r, hr, e⟩ := F.has i hi
        exact ⟨_, List.mem_map_of_mem hr, (key r).trans e⟩
      · rw [List.mem_singleton.mp hi]
        obtain ⟨r, hr, e⟩ := hk
        exact ⟨_, List.mem_map_of_mem hr, (key r).trans e⟩
    · intro r' hr'
      obtain ⟨r, hr, rfl⟩ := List.mem_map.mp hr'
      obtain ⟨i, hi, e⟩ := F.src r hr
      exact ⟨i, List.mem_append_left _ hi, (key r).trans e⟩
    · rw [List.pairwise_map]
      have := List.Pairwise.and F.lead F.lead
      refine List.Pairwise.imp_of_mem (fun {r s} hr hs h => ?_) F.lead
      obtain ⟨p, hp, hq⟩ := h
      obtain ⟨p2, hp2, hq2⟩ := lead_row r hr
      have hin : ∀ x, x ∈ r.2 → x ∈ (if r.1 == cramF it.1 n then (r.1, r.2 ++ it.2) else r).2 := fun x hx => by
        split
        · exact List.mem_append_left _ hx
        · exact hx
      by_cases c : p ≤ p2
      · refine ⟨p, hin p hp, fun q hq' => ?_⟩
        revert hq'; split
        · intro h; rcases List.mem_append.mp h with h | h
          · exact hq q h
          · exact Int.le_trans c (hq2 q h)
        · exact hq q
      · refine ⟨p2, hin p2 hp2, fun q hq' => ?_⟩
        have c' : p2 ≤ p := by omega
        revert hq'; split
        · intro h; rcases List.mem_append.mp h with h | h
          · exact Int.le_trans c' (hq q h)
          · exact hq2 q h
        · intro h; exact Int.le_trans c' (hq q h)
    · rw [List.flatMap_append]
      refine (flat_upd F.keys hk).trans ?_
      simp only [List.flatMap_cons, List.flatMap_nil, List.append_nil]
      exact List.Perm.append_right _ F.perm
  · rw [if_neg (fun h => hk (any_key.mp h))]
    refine ⟨?_, ?_, ?_, ?_, ?_, ?_⟩
    · refine List.pairwise_append.mpr ⟨F.keys, List.pairwise_singleton _ _, fun r hr s hs => ?_⟩
      rw [List.mem_singleton.mp hs]
      exact fun e => hk ⟨r, hr, e⟩
    · intro r hr p
      rcases List.mem_append.mp hr with hr | hr
      · rw [F.mem r hr p]
        constructor
        · rintro ⟨i, hi, h⟩; exact ⟨i, List.mem_append_left _ hi, h⟩
        · rintro ⟨i, hi, e1, hp⟩
          rcases List.mem_append.mp hi with hi | hi
          · exact ⟨i, hi, e1, hp⟩
          · rw [List.mem_singleton.mp hi] at e1; exact absurd ⟨r, hr, e1.symm⟩ hk
      · rw [List.mem_singleton.mp hr]
        constructor
        · intro h; exact ⟨it, List.mem_append_right _ (List.mem_singleton.mpr rfl), rfl, h⟩
        · rintro ⟨i, hi, e1, hp⟩
          rcases List.mem_append.mp hi with hi | hi
          · obtain ⟨r2, hr2, e2⟩ := F.has i hi
            exact absurd ⟨r2, hr2, e2.trans e1⟩ hk
          · rw [List.mem_singleton.mp hi] at hp; exact hp
    · intro i hi
      rcases List.mem_append.mp hi with hi | hi
      · obtain ⟨r, hr, e⟩ := F.has i hi
        exact ⟨r, List.mem_append_left _ hr, e⟩
      · rw [List.mem_singleton.mp hi]
        exact ⟨_, List.mem_append_right _ (List.mem_singleton.mpr rfl), rfl⟩
    · intro r hr
      rcases List.mem_append.mp hr with hr | hr
      · obtain ⟨i, hi, e⟩ := F.src r hr
        exact ⟨i, List.mem_append_left _ hi, e⟩
      · rw [List.mem_singleton.mp hr]
        exact ⟨it, List.mem_append_right _ (List.mem_singleton.mpr rfl), rfl⟩
    · refine List.pairwise_append.mpr ⟨F.lead, List.pairwise_singleton _ _, fun r hr s hs => ?_⟩
      rw [List.mem_singleton.mp hs]
      exact lead_row r hr
    · rw [List.flatMap_append, List.flatMap_append]
      simp only [List.flatMap_cons, List.flatMap_nil, List.append_nil]
      exact List.Perm.append_right _ F.perm

theorem filed_take {items : List (Str × List Int)} {n : Int} (hl : items.Pairwise Lead) : ∀ i, i ≤ items.length → Filed (items.take i) n (filedF (items.take i) n)
  | 0, _ => ⟨.nil, (fun r hr => nomatch hr), (fun it hi => by simp at hi), (fun r hr => nomatch hr), .nil, by simp [filedF]⟩
  | i + 1, h => by
    have ih := filed_take (n := n) hl i (by omega)
    have e := List.getElem?_eq_getElem (l := items) (i := i) (by omega)
    rw [take_snoc e]
    have : filedF (items.take i ++ [items[i]]) n = addTo (filedF (items.take i) n) (cramF items[i].1 n) items[i].2 := by unfold filedF; rw [List.foldl_append]; rfl
    rw [this]
    refine filed_snoc ih fun j hj => ?_
    have hp : (items.take i ++ [items[i]]).Pairwise Lead := by rw [← take_snoc e]; exact hl.sublist (List.take_sublist _ _)
    exact (List.pairwise_append.mp hp).2.2 j hj _ (List.mem_singleton.mpr rfl)
theorem filed_ok {items : List (Str × List Int)} {n : Int} (hl : items.Pairwise Lead) : Filed items n (filedF items n) := by
  have := filed_take (n := n) hl items.length (Nat.le_refl _)
  rwa [List.take_length] at this

/-- what the ladder holds: rows of the texts' places under f -/
structure Held (texts : List Str) (f : Str → Str) (data : List (Str × List Int)) : Prop where
  lead : data.Pairwise Lead
  of : ∀ r ∈ data, ∀ p ∈ r.2, ∃ k, k < texts.length ∧ p = (k : Int) ∧ f (texts.getD k "") = r.1
  perm : (data.flatMap (·.2)).Perm ((List.range texts.length).map Int.ofNat)
  ne : ∀ r ∈ data, r.2 ≠ []

theorem held0 (texts : List Str) : Held texts (fun t => t) (items0 texts) where
  lead := by
    unfold items0
    rw [List.pairwise_map]
    exact List.pairwise_lt_range.imp fun {a b} h => ⟨(a : Int), List.mem_singleton.mpr rfl, fun q hq => by rw [List.mem_singleton.mp hq]; omega⟩
  of := fun r hr p hp => by
    obtain ⟨k, hk, rfl⟩ := List.mem_map.mp hr
    exact ⟨k, List.mem_range.mp hk, List.mem_singleton.mp hp, rfl⟩
  perm := by
    have : (items0 texts).flatMap (·.2) = (List.range texts.length).map Int.ofNat := by
      unfold items0
      generalize List.range texts.length = l
      induction l with
      | nil => rfl
      | cons a l ih => rw [List.map_cons, List.flatMap_cons, ih]; rfl
    rw [this]
  ne := fun r hr => by
    obtain ⟨k, _, rfl⟩ := List.mem_map.mp hr
    simp

theorem held_step {texts : List Str} {f : Str → Str} {data : List (Str × List Int)} {n : Int} (H : Held texts f data) : Held texts (fun t => cramF (f t) n) (filedF data n) ∧ (filedF data n).Pairwise fun r s => r.1 ≠ s.1 := by
  have F := filed_ok (n := n) H.lead
  refine ⟨⟨F.lead, fun r hr p hp => ?_, F.perm.trans H.perm, fun r hr e => ?_⟩, F.keys⟩
  · obtain ⟨it, hi, e, hp'⟩ := (F.mem r hr p).mp hp
    obtain ⟨k, hk, e1, e2⟩ := H.of it hi p hp'
    exact ⟨k, hk, e1, by rw [e2, e]⟩
  · obtain ⟨it, hi, e1⟩ := F.src r hr
    have hne := H.ne it hi
    cases hx : it.2 with
    | nil => exact hne hx
    | cons p l =>
      have := (F.mem r hr p).mpr ⟨it, hi, e1.symm, by rw [hx]; exact List.mem_cons_self⟩
      rw [e] at this; cases this
end Mine
end

section
open PySem PySem.W PySem.Calls PyProof.Rows
namespace Mine
set_option maxHeartbeats 1000000

theorem nodup_ofNat {l : List Nat} (h : l.Nodup) : (l.map Int.ofNat).Nodup := by
  unfold List.Nodup at *
  rw [List.pairwise_map]
  exact h.imp fun h e => h (Int.ofNat.inj e)
theorem len_flat_mem {r : Str × List Int} : ∀ {data : List (Str × List Int)}, r ∈ data → r.2.length ≤ (data.flatMap (·.2)).length
  | a :: l, h => by
    rw [List.flatMap_cons, List.length_append]
    rcases List.mem_cons.mp h with rfl | h
    · omega
    · have := len_flat_mem h; omega
theorem len_rows : ∀ {data : List (Str × List Int)}, (∀ r ∈ data, r.2 ≠ []) → data.length ≤ (data.flatMap (·.2)).length
  | [], _ => Nat.zero_le _
  | a :: l, h => by
    rw [List.flatMap_cons, List.length_append, List.length_cons]
    have h1 := len_rows fun r hr => h r (List.mem_cons_of_mem _ hr)
    have h2 : a.2.length ≠ 0 := fun e => h a List.mem_cons_self (List.length_eq_zero_iff.mp e)
    omega
theorem sum_flat (data : List (Str × List Int)) : (data.map fun r : Str × List Int => (r.2.length : Int)).sum = ((data.flatMap (·.2)).length : Int) := by
  induction data with
  | nil => rfl
  | cons a l ih => rw [List.map_cons, List.sum_cons, ih, List.flatMap_cons, List.length_append]; push_cast; rfl
theorem nodup_row {r : Str × List Int} : ∀ {data : List (Str × List Int)}, (data.flatMap (·.2)).Nodup → r ∈ data → r.2.Nodup
  | a :: l, h, hr => by
    rw [List.flatMap_cons, List.nodup_append] at h
    rcases List.mem_cons.mp hr with rfl | hr
    · exact h.1
    · exact nodup_row h.2.1 hr
theorem row_unique : ∀ {data : List (Str × List Int)}, (data.Pairwise fun r s => r.1 ≠ s.1) → ∀ {r s}, r ∈ data → s ∈ data → r.1 = s.1 → r = s
  | a :: l, h, r, s, hr, hs, e => by
    rw [List.pairwise_cons] at h
    rcases List.mem_cons.mp hr with rfl | g1 <;> rcases List.mem_cons.mp hs with rfl | g2
    · rfl
    · exact absurd e (h.1 _ g2)
    · exact absurd e.symm (h.1 _ g1)
    · exact row_unique h.2 g1 g2 e
theorem ask_flat {k : Str} : ∀ {data : List (Str × List Int)}, (data.Pairwise fun r s => r.1 ≠ s.1) → sortF (askF data k) = (sdF data).flatMap fun r => if r.1 == k then r.2 else []
  | [], _ => by simp [askF, sdF, sortF]
  | a :: l, h => by
    rw [List.pairwise_cons] at h
    have ih := ask_flat (k := k) h.2
    have ecs : sdF (a :: l) = (a.1, sortF a.2) :: sdF l := rfl
    rw [ecs, List.flatMap_cons, ← ih]
    by_cases e : a.1 = k
    · have e1 : askF (a :: l) k = a.2 := by simp [askF, e]
      have e2 : askF l k = [] := by
        rcases askF_cases l k with h0 | ⟨r, hr, _⟩
        · exact h0
        · unfold askF
          have : l.find? (fun r => r.1 == k) = none := by
            rw [List.find?_eq_none]
            intro r hr er
            exact h.1 r hr (e.trans (by simpa using er : r.1 = k).symm)
          rw [this]; rfl
      rw [e1, e2]
      simp [e, sortF]
    · have e1 : askF (a :: l) k = askF l k := by simp [askF, e]
      rw [e1]
      have : (a.1 == k) = false := by simpa using e
      simp [this]

theorem good_of {texts probes : List Str} {data : List (Str × List Int)} {n : Int} (H : Held texts (fun t => cramF t n) data) (K : data.Pairwise fun r s => r.1 ≠ s.1) (htn : texts.length ≤ 50)
    (hlen : ∀ t ∈ texts, (cramF t n).length ≤ 1000) (hhash : ∀ t ∈ texts, cramF t n ≠ "#") (hleft : ∀ key t, leftF key t n = (key == cramF t n)) : Good texts probes data n := by
  have hN : (data.flatMap (·.2)).length = texts.length := by rw [H.perm.length_eq]; simp
  have hnd : (data.flatMap (·.2)).Nodup := by
    rw [H.perm.nodup_iff]
    exact nodup_ofNat List.nodup_range
  have keyOf : ∀ r ∈ data, ∃ t ∈ texts, r.1 = cramF t n := fun r hr => by
    cases hx : r.2 with
    | nil => exact absurd hx (H.ne r hr)
    | cons p l =>
      obtain ⟨k, hk, _, e⟩ := H.of r hr p (by rw [hx]; exact List.mem_cons_self)
      refine ⟨texts.getD k "", ?_, e.symm⟩
      rw [List.getD_eq_getElem?_getD, List.getElem?_eq_getElem hk]
      exact List.getElem_mem hk
  refine ⟨fun r hr => ?_, fun r hr => ?_, fun r hr => ?_, ?_, fun r hr => ?_, fun r hr => ?_, ?_, ?_, fun p hp => ?_⟩
  · obtain ⟨t, ht, e⟩ := keyOf r hr; rw [e]; exact hhash t ht
  · obtain ⟨t, ht, e⟩ := keyOf r hr; rw [e]; exact hlen t ht
  · have := len_flat_mem hr; omega
  · have := len_rows H.ne; omega
  · obtain ⟨r', h, rfl⟩ := List.mem_map.mp hr
    intro e
    have e' : sortF r'.2 = [] := e
    have := sortF_len r'.2
    rw [e'] at this
    exact H.ne r' h (List.length_eq_zero_iff.mp this.symm)
  · obtain ⟨r', h, rfl⟩ := List.mem_map.mp hr
    show sortF r'.2 = _
    symm
    refine sort_eq ?_ ?_
    · refine (List.perm_ext_iff_of_nodup ?_ (nodup_row hnd h)).mpr fun p => ?_
      · exact nodup_ofNat (List.nodup_range.filter _)
      · constructor
        · intro hp
          obtain ⟨k, hk, rfl⟩ := List.mem_map.mp hp
          obtain ⟨hk1, hk2⟩ := List.mem_filter.mp hk
          rw [hleft] at hk2
          have hk2' : r'.1 = cramF (texts.getD k "") n := by simpa using hk2
          have hin : Int.ofNat k ∈ data.flatMap (·.2) := H.perm.mem_iff.mpr (List.mem_map_of_mem hk1)
          obtain ⟨s, hs, hp2⟩ := List.mem_flatMap.mp hin
          obtain ⟨k', _, e1, e2⟩ := H.of s hs _ hp2
          have : k = k' := Int.ofNat.inj e1
          subst this
          have := row_unique K h hs (hk2'.trans e2)
          rw [this]; exact hp2
        · intro hp
          obtain ⟨k, hk, rfl, e⟩ := H.of r' h p hp
          refine List.mem_map.mpr ⟨k, List.mem_filter.mpr ⟨List.mem_range.mpr hk, ?_⟩, rfl⟩
          rw [hleft, ← e]; simp
    · rw [List.pairwise_map]
      exact (List.pairwise_lt_range.filter _).imp fun h => by simp; omega
  · rw [List.pairwise_map]
    unfold sdF
    rw [List.pairwise_map]
    refine List.Pairwise.imp_of_mem (fun {r s} hr hs h => ?_) H.lead
    obtain ⟨p, hp, hq⟩ := h
    show (sortF r.2).headD 0 ≤ (sortF s.2).headD 0
    have hr' : (sortF r.2).headD 0 ≤ p := by
      have hm := (sortF_perm r.2).mem_iff.mpr hp
      have hs' := sortF_sorted r.2
      cases hx : sortF r.2 with
      | nil => rw [hx] at hm; cases hm
      | cons a l =>
        rw [hx] at hm hs'
        rcases List.mem_cons.mp hm with rfl | hm
        · exact Int.le_refl _
        · exact (List.pairwise_cons.mp hs').1 _ hm
    have hs2 : (sortF s.2).headD 0 ∈ s.2 := by
      cases hx : sortF s.2 with
      | nil =>
        have := sortF_len s.2
        rw [hx] at this
        exact absurd (List.length_eq_zero_iff.mp this.symm) (H.ne s hs)
      | cons a l => exact (sortF_perm s.2).mem_iff.mp (by rw [hx]; exact List.mem_cons_self)
    exact Int.le_trans hr' (hq _ hs2)
  · rw [sdF_sum, sum_flat, hN]
  · rw [ask_flat K]
    congr 1
    funext r
    rw [hleft]
end Mine
end

section
open PySem PySem.W PySem.Calls PyProof.Rows
namespace Mine
set_option maxHeartbeats 1000000

theorem held_all {texts : List Str} {ws : List Int} (hcram : ∀ (t : Str) (w1 w2 : Int), w2 ≤ w1 → cramF (cramF t w1) w2 = cramF t w2) (hdec : ws.Pairwise fun a b => b ≤ a) :
    ∀ i n, ws[i]? = some n → Held texts (fun t => cramF t n) (heldF texts ws (i + 1)) ∧ (heldF texts ws (i + 1)).Pairwise fun r s => r.1 ≠ s.1
  | 0, n, h => by
    rw [heldF_succ h]
    have e : heldF texts ws 0 = items0 texts := by unfold heldF; rw [List.take_zero]; rfl
    rw [e]
    exact held_step (held0 texts)
  | i + 1, n, h => by
    have hlt : i + 1 < ws.length := (List.getElem?_eq_some_iff.mp h).1
    have hm := List.getElem?_eq_getElem (l := ws) (i := i) (by omega)
    have ih := held_all (texts := texts) hcram hdec i ws[i] hm
    rw [heldF_succ h]
    have st := held_step (n := n) ih.1
    have hle : n ≤ ws[i] := by
      have e2 := (List.getElem?_eq_some_iff.mp h).2
      rw [← e2]
      exact List.pairwise_iff_getElem.mp hdec i (i + 1) (by omega) hlt (by omega)
    have ef : (fun t => cramF (cramF t ws[i]) n) = fun t => cramF t n := funext fun t => hcram t _ _ hle
    rw [ef] at st
    exact st
end Mine
end

section
open PySem PySem.W PySem.Calls PyProof.Rows
namespace Mine
set_option maxHeartbeats 1000000

theorem pre_post (n : Int) : preF n = (if n ≤ 3 then 0 else (n - 3) / 2) ∧ postF n = (if n ≤ 3 then 0 else n - 3 - (n - 3) / 2) := by
  unfold postF preF
  rw [Int.fdiv_eq_ediv_of_nonneg _ (by decide)]
  by_cases h : n ≤ 3
  · rw [if_pos h, if_pos h]
    have h1 : ¬ (n - 3) / 2 > 0 := by omega
    rw [if_neg h1]
    exact ⟨rfl, if_neg (by omega)⟩
  · rw [if_neg h, if_neg h]
    split <;> split <;> constructor <;> omega
theorem str_eq {a b : Str} (h : a.cps.toList = b.cps.toList) : a = b := by
  obtain ⟨a⟩ := a; obtain ⟨b⟩ := b
  have : a = b := Array.toList_inj.mp h
  rw [this]
def cramL (l : List Nat) (p q : Nat) : List Nat := l.take p ++ [46, 46, 46] ++ l.drop (l.length - q)
theorem str_len (t : Str) : t.length = t.cps.toList.length := by simp [Str.length]
theorem sl_to {x : Str} {j : Int} (h0 : 0 ≤ j) (h2 : j ≤ x.length) : (Txt.slice x none (some j)).cps.toList = x.cps.toList.take j.toNat := by
  rw [beq_iff_eq.mp (slice_closes_toL h0 h2)]
  simp
theorem sl_from {x : Str} {i : Int} (h0 : 0 ≤ i) (h2 : i ≤ x.length) : (Txt.slice x (some i) none).cps.toList = x.cps.toList.drop i.toNat := by
  rw [slice_from_eq h0 h2 rfl]
  rw [List.toList_toArray, List.take_of_length_le]
  rw [List.length_drop, ← str_len]; omega
theorem sl_mid {x : Str} {i j : Int} (h0 : 0 ≤ i) (h1 : i ≤ j) (h2 : j ≤ x.length) : (Txt.slice x (some i) (some j)).cps.toList = (x.cps.toList.drop i.toNat).take (j - i).toNat := by
  rw [beq_iff_eq.mp (slice_closesL h0 h1 h2)]
theorem app_cps (a b : Str) : (a ++ b).cps.toList = a.cps.toList ++ b.cps.toList := by
  show (a.cps ++ b.cps).toList = _
  simp
/-- cram as lists -/
theorem cram_cps (t : Str) (n : Int) : (cramF t n).cps.toList = if n < (t.length : Int) then cramL t.cps.toList (preF n).toNat (postF n).toNat else t.cps.toList := by
  unfold cramF
  split
  · rename_i h
    obtain ⟨e1, e2⟩ := pre_post n
    have hp : 0 ≤ preF n ∧ preF n ≤ t.length ∧ 0 ≤ postF n ∧ postF n ≤ t.length := by
      rw [e1, e2]; split <;> omega
    rw [app_cps, app_cps, sl_to hp.1 hp.2.1, sl_from (by omega) (by omega)]
    unfold cramL
    rw [show ((t.length : Int) - postF n).toNat = t.cps.toList.length - (postF n).toNat by rw [← str_len]; omega]
    rfl
  · rfl

theorem cramL_len {l : List Nat} {p q : Nat} (hp : p ≤ l.length) (hq : q ≤ l.length) : (cramL l p q).length = p + 3 + q := by
  unfold cramL
  simp only [List.length_append, List.length_take, List.length_drop, List.length_cons, List.length_nil]
  omega
theorem cramL_cramL {l : List Nat} {p1 q1 p2 q2 : Nat} (hp : p1 ≤ l.length) (hq : q1 ≤ l.length) (h1 : p2 ≤ p1) (h2 : q2 ≤ q1) : cramL (cramL l p1 q1) p2 q2 = cramL l p2 q2 := by
  have hl := cramL_len hp hq
  unfold cramL at hl ⊢
  rw [hl]
  congr 1
  · congr 1
    rw [List.append_assoc, List.take_append_of_le_length (by rw [List.length_take]; omega), List.take_take]
    congr 1; omega
  · have e : (l.take p1 ++ [46, 46, 46]).length = p1 + 3 := by simp; omega
    rw [show p1 + 3 + q1 - q2 = (l.take p1 ++ [46, 46, 46]).length + (q1 - q2) by rw [e]; omega, List.drop_length_add_append, List.drop_drop]
    congr 1; omega
theorem pq_le {n : Int} {k : Nat} (h : n < k) : (preF n).toNat ≤ k ∧ (postF n).toNat ≤ k := by
  obtain ⟨e1, e2⟩ := pre_post n
  rw [e1, e2]; split <;> omega
theorem cram_len {t : Str} {n : Int} (h : n < (t.length : Int)) : ((cramF t n).length : Int) = if n ≤ 3 then 3 else n := by
  rw [str_len, cram_cps, if_pos h, cramL_len]
  · obtain ⟨e1, e2⟩ := pre_post n
    rw [e1, e2]; split <;> omega
  · rw [← str_len]; exact (pq_le h).1
  · rw [← str_len]; exact (pq_le h).2
theorem cram_off {t : Str} {n : Int} (h : ¬ n < (t.length : Int)) : cramF t n = t := by unfold cramF; rw [if_neg h]

theorem cram_cram (t : Str) (w1 w2 : Int) (h : w2 ≤ w1) : cramF (cramF t w1) w2 = cramF t w2 := by
  by_cases c1 : w1 < (t.length : Int)
  · have hl := cram_len c1
    by_cases c2 : w2 < ((cramF t w1).length : Int)
    · refine str_eq ?_
      rw [cram_cps (cramF t w1), if_pos c2, cram_cps t w1, if_pos c1, cram_cps t w2, if_pos (by omega)]
      obtain ⟨e1, e2⟩ := pre_post w1
      obtain ⟨e3, e4⟩ := pre_post w2
      refine cramL_cramL ?_ ?_ ?_ ?_
      · rw [← str_len]; exact (pq_le c1).1
      · rw [← str_len]; exact (pq_le c1).2
      · rw [e1, e3]; split <;> split <;> omega
      · rw [e2, e4]; split <;> split <;> omega
    · rw [cram_off c2]
      have : w2 = w1 := by split at hl <;> omega
      rw [this]
  · rw [cram_off c1]
theorem cram_le (t : Str) (n : Int) : (cramF t n).length ≤ t.length + 3 := by
  by_cases c : n < (t.length : Int)
  · have := cram_len c
    split at this <;> omega
  · rw [cram_off c]; omega
theorem cram_hash {t : Str} (ht : t ≠ "#") (n : Int) : cramF t n ≠ "#" := by
  by_cases c : n < (t.length : Int)
  · have := cram_len c
    intro e
    rw [e] at this
    have h1 : (("#" : Str).length : Int) = 1 := rfl
    rw [h1] at this
    split at this <;> omega
  · rw [cram_off c]; exact ht
end Mine
end

section
open PySem PySem.W PySem.Calls PyProof.Rows
namespace Mine
set_option maxHeartbeats 1000000

theorem starts_iff (t y : Str) : Txt.startswith t y = true ↔ y.length ≤ t.length ∧ t.cps.toList.take y.length = y.cps.toList := by
  unfold Txt.startswith
  rw [Bool.and_eq_true, decide_eq_true_iff]
  unfold Builtin.Str.subAt
  rw [beq_iff_eq, ← Array.toList_inj]
  simp
theorem ends_iff (t y : Str) : Txt.endswith t y = true ↔ y.length ≤ t.length ∧ t.cps.toList.drop (t.length - y.length) = y.cps.toList := by
  unfold Txt.endswith
  rw [Bool.and_eq_true, decide_eq_true_iff]
  unfold Builtin.Str.subAt
  rw [beq_iff_eq, ← Array.toList_inj]
  constructor
  · rintro ⟨h1, h2⟩
    have h1' : y.length ≤ t.length := by omega
    refine ⟨h1', ?_⟩
    rw [← h2]
    simp
    rw [List.take_of_length_le]
    rw [List.length_drop, ← str_len]; omega
  · rintro ⟨h1, h2⟩
    refine ⟨by omega, ?_⟩
    rw [← h2]
    simp
    rw [List.take_of_length_le]
    rw [List.length_drop, ← str_len]; omega

theorem cramL_eq {k l : List Nat} {p q : Nat} (hp : p ≤ l.length) (hq : q ≤ l.length) (hk : k.length = p + 3 + q) : k = cramL l p q ↔ k.take p = l.take p ∧ (k.drop p).take 3 = [46, 46, 46] ∧ k.drop (p + 3) = l.drop (l.length - q) := by
  have hlp : (l.take p).length = p := by rw [List.length_take]; omega
  constructor
  · rintro rfl
    unfold cramL
    refine ⟨?_, ?_, ?_⟩
    · rw [List.append_assoc, List.take_append_of_le_length (by omega), List.take_take, Nat.min_self]
    · rw [List.append_assoc]
      have := List.drop_left (l₁ := l.take p) (l₂ := [46, 46, 46] ++ l.drop (l.length - q))
      rw [hlp] at this
      rw [this]; rfl
    · have e : (l.take p ++ [46, 46, 46]).length = p + 3 := by simp; omega
      rw [← e, List.drop_left]
  · rintro ⟨h1, h2, h3⟩
    unfold cramL
    rw [← h1, ← h2, ← h3, List.append_assoc]
    rw [show k.drop (p + 3) = (k.drop p).drop 3 by rw [List.drop_drop], List.take_append_drop, List.take_append_drop]

theorem left_eq (key t : Str) (n : Int) : leftF key t n = (key == cramF t n) := by
  unfold leftF
  by_cases c : (t.length : Int) ≤ n
  · rw [if_pos c, cram_off (by omega)]
  · rw [if_neg c]
    have c' : n < (t.length : Int) := by omega
    have hl := cram_len c'
    by_cases hk : (key.length : Int) = if 3 > n then 3 else n
    · rw [if_pos hk]
      obtain ⟨e1, e2⟩ := pre_post n
      have hm : ((key.length : Int) - 3).fdiv 2 = preF n := by
        rw [Int.fdiv_eq_ediv_of_nonneg _ (by decide), e1, hk]; split <;> split <;> omega
      have hpq : 0 ≤ preF n ∧ 0 ≤ postF n ∧ (key.length : Int) = preF n + 3 + postF n := by
        rw [e1, e2, hk]; split <;> split <;> omega
      obtain ⟨p0, q0, hkl⟩ := hpq
      have hpl := pq_le c'
      rw [hm]
      have iff : key = cramF t n ↔ key.cps.toList.take (preF n).toNat = t.cps.toList.take (preF n).toNat ∧ (key.cps.toList.drop (preF n).toNat).take 3 = [46, 46, 46] ∧ key.cps.toList.drop ((preF n).toNat + 3) = t.cps.toList.drop (t.cps.toList.length - (postF n).toNat) := by
        rw [← cramL_eq (by rw [← str_len]; exact hpl.1) (by rw [← str_len]; exact hpl.2) (by rw [← str_len]; omega)]
        constructor
        · intro e; rw [e, cram_cps, if_pos c']
        · intro e; refine str_eq ?_; rw [e, cram_cps, if_pos c']
      have s1 := sl_to (x := key) p0 (by omega)
      have s2 := sl_mid (x := key) p0 (show preF n ≤ preF n + 3 by omega) (by omega)
      have s3 := sl_from (x := key) (show 0 ≤ preF n + 3 by omega) (by omega)
      rw [show (preF n + 3 - preF n).toNat = 3 by omega] at s2
      rw [show (preF n + 3).toNat = (preF n).toNat + 3 by omega] at s3
      have l1 : (Txt.slice key none (some (preF n))).length = (preF n).toNat := by rw [str_len, s1, List.length_take, ← str_len]; omega
      have l3 : (Txt.slice key (some (preF n + 3)) none).length = (postF n).toNat := by rw [str_len, s3, List.length_drop, ← str_len]; omega
      by_cases hs : Txt.slice key (some (preF n)) (some (preF n + 3)) = ("..." : Str)
      · rw [if_neg (by rw [hs]; simp)]
        have hs' : (key.cps.toList.drop (preF n).toNat).take 3 = [46, 46, 46] := by rw [← s2, hs]; rfl
        have b1 : Txt.startswith t (Txt.slice key none (some (preF n))) = true ↔ key.cps.toList.take (preF n).toNat = t.cps.toList.take (preF n).toNat := by
          rw [starts_iff, l1, s1]
          exact ⟨fun h => h.2.symm, fun h => ⟨by omega, h.symm⟩⟩
        have b2 : Txt.endswith t (Txt.slice key (some (preF n + 3)) none) = true ↔ key.cps.toList.drop ((preF n).toNat + 3) = t.cps.toList.drop (t.cps.toList.length - (postF n).toNat) := by
          rw [ends_iff, l3, s3, ← str_len]
          exact ⟨fun h => h.2.symm, fun h => ⟨by omega, h.symm⟩⟩
        by_cases g1 : Txt.startswith t (Txt.slice key none (some (preF n))) = true
        · rw [if_pos g1]
          rw [Bool.eq_iff_iff, b2, beq_iff_eq, iff]
          exact ⟨fun h => ⟨b1.mp g1, hs', h⟩, fun h => h.2.2⟩
        · rw [if_neg g1]
          symm
          rw [beq_eq_false_iff_ne]
          exact fun e => g1 (b1.mpr (iff.mp e).1)
      · rw [if_pos (by simpa using hs)]
        symm
        rw [beq_eq_false_iff_ne]
        intro e
        refine hs (str_eq ?_)
        rw [s2, (iff.mp e).2.1]; rfl
    · rw [if_neg hk]
      symm
      rw [beq_eq_false_iff_ne]
      intro e
      rw [← e] at hl
      refine hk (hl.trans ?_)
      split <;> split <;> omega
end Mine
end

section
open PySem PySem.W PySem.Calls PyProof.Rows
namespace Mine
theorem plain_good {texts probes : List Str} {ws : List Int} (htn : texts.length ≤ 50) (ht : ∀ t ∈ texts, t.length ≤ 900 ∧ t ≠ ("#" : Str)) (hdec : ws.Pairwise fun a b => b ≤ a) :
    ∀ i n, ws[i]? = some n → Good texts probes (heldF texts ws (i + 1)) n := fun i n h => by
  have H := held_all (texts := texts) cram_cram hdec i n h
  refine good_of H.1 H.2 htn (fun t h => ?_) (fun t h => cram_hash (ht t h).2 n) (fun key t => left_eq key t n)
  have := cram_le t n
  have := (ht t h).1
  omega
end Mine
end

section
open PySem PySem.W PySem.Calls PyProof.Rows
namespace Mine
set_option maxRecDepth 100000
set_option maxHeartbeats 1000000
section
variable {prog : Program} {w : World} {A : Around} {E : Value → Shared → Prop} {s : Shared} {env : Env}
/-- a list is cut by a slice object -/
theorem list_cut {value slice : PySem.Expr} {l sl : Addr} {items : Array Value} {vl vu vs : Value} {lo hi st : Option Int} {Q : Value → Shared → Prop} (hl : s.heap.IsList l items) (hs : s.heap.IsSliceOf sl vl vu vs) (pl : IsPart vl lo) (pu : IsPart vu hi) (ps : IsPart vs st) (h0 : st ≠ some 0) (hsz : items.size ≤ 1000)
    (q : ∀ D h', (∀ b o, s.heap.get? b = some o → h'.get? b = some o) → s.heap.get? D = none → h'.get? D = some (listOf (slicePick items lo hi st) 0) → s.heap.objs.size ≤ h'.objs.size → Q (.ref D) { s with heap := h' })
    (hsub : subscripted slice false (.ref l) (.ref sl) = operate [.ref sl, .ref l] (getItem (.ref l) (.ref sl)) := by with_unfolding_all rfl)
    (ht : ∀ r, letTemporaryGo value (.ref l) r = pure () := by intro _; with_unfolding_all rfl) :
    wpAny (model prog w) A (subscriptTail value slice (.ref l) (.ref sl)) Q E s :=
  subscriptTail_ops (Heap.IsList.typeIs hl) list_getitem_lookup
    (wpAny_getItem_list_slice hl hs pl pu ps h0 (q _ _ (fun b o e => Heap.get?_push_of_some _ e) (Heap.get?_none_of_le (Nat.le_refl _)) (Heap.get?_push_size _ rfl) (by rw [Heap.size_push]; exact Nat.le_succ _)) (by rw [sizeLine_eq]; omega)) hsub ht

theorem list_add {l b : Addr} {xs ys : Array Value} {n m : Nat} {Q : Value → Shared → Prop} (hl : s.heap.get? l = some (listOf xs n)) (hb : s.heap.get? b = some (listOf ys m)) (hsz : xs.size + ys.size ≤ 1000)
    (q : ∀ D h', (∀ b o, s.heap.get? b = some o → h'.get? b = some o) → s.heap.get? D = none → h'.get? D = some (listOf (xs ++ ys) 0) → Q (.ref D) { s with heap := h' }) :
    wpAny (model prog w) A (binaryOp .Add (.ref l) (.ref b)) Q E s :=
  PySem.P.add_list hl hb (q _ _ (fun b o e => Heap.get?_push_of_some _ e) (Heap.get?_none_of_le (Nat.le_refl _)) (Heap.get?_push_size _ rfl)) (by rw [sizeLine_eq]; omega)

/-- a text read from its end -/
theorem str_rev {value slice : PySem.Expr} {x : Str} {t uk : Tok} {sl : Addr} {Q : Value → Shared → Prop} (hs : s.heap.IsSlice sl none none (some (-1, uk))) (hsz : x.length ≤ 1000)
    (q : ∀ t' k, Q (.str (Txt.sliceBy x none none (-1, uk)) t') { s with toks := k })
    (hsub : subscripted slice false (.str x t) (.ref sl) = operate [.ref sl, .str x t] (getItem (.str x t) (.ref sl)) := by with_unfolding_all rfl)
    (ht : ∀ r, letTemporaryGo value (.str x t) r = pure () := by intro _; with_unfolding_all rfl) :
    wpAny (model prog w) A (subscriptTail value slice (.str x t) (.ref sl)) Q E s :=
  tail_of_ItemOn ⟨"str", _, PySem.F.slot_str_getitem.lookup, typeIs_str _ _ _, wpAny_getItem_str_slice (l := none) (u := none) (st := some (-1, uk)) hs rfl
    (post_val_or_str ⟨Nat.le_trans (Txt.sliceBy_le x _ _ (-1, uk) (by simp)) (by rw [sizeLine_eq]; omega), fun t' c => q t' c⟩)⟩ hsub ht

/-- a list is walked by a comprehension that began at a smaller heap -/
theorem over_list_at {h₀ : Heap} {scope : Scope} {cl : List (Str × Addr)} {target : PySem.Expr} {ifs : List PySem.Expr} {elt : PySem.Expr} {Fin : Addr → Addr → List Value → Heap → Nat → Shared → Prop} {l : Addr} {its : Array Value} (hh : A.handled = none) (hl : s.heap.IsList l its) (hsz : its.size ≤ 1000)
    (h0 : ∀ b o, h₀.get? b = some o → s.heap.get? b = some o) (hz : h₀.objs.size ≤ s.heap.objs.size)
    (J : Addr → Addr → Addr → Nat → List Value → Heap → Prop)
    (h : ∀ I h₂, (∀ b o, s.heap.get? b = some o → h₂.get? b = some o) → h₀.get? I = none → CompOk prog w A env scope cl target ifs elt h₀ { s with heap := h₂ } [I] its.size (fun i v _ => its[i]? = some v) (J I) ∧
      ∀ C D h' tk ys, h₀.get? D = none → h₀.get? C = none → D ≠ C → (∃ m, h'.Ns C m) → h'.get? D = some (lst ys) → ys.length ≤ its.size → J I C D its.size ys h' → (∀ b o, h₀.get? b = some o → h'.get? b = some o) → Fin C D ys h' tk { s with heap := h₂ }) :
    wpAny (model prog w) A (pyIter (.ref l)) (CompAt prog w A env scope cl target ifs elt h₀ Fin) E s := by
  refine wpAny_pyIter_list hl ?_
  have hne : l ≠ s.heap.objs.size := by obtain ⟨o, e, _⟩ := hl; exact Nat.ne_of_lt (Heap.lt_size e)
  have hIn : h₀.get? s.heap.objs.size = none := Heap.get?_none_of_le hz
  obtain ⟨h1, h2⟩ := h s.heap.objs.size (s.heap.push { cls := .type "list_iterator", data := .fields #[.ref l, .int 0 0] }) (fun b o e => Heap.get?_push_of_some _ e) hIn
  refine ⟨s.heap.objs.size, _, _, _, _, _, J s.heap.objs.size, rfl, Src.list hh _ _ l hne its, hsz, ⟨⟨_, Heap.get?_push_size _ rfl, rfl, rfl⟩, hl.push _⟩, ?_, fun b o e => Heap.get?_push_of_some _ (h0 b o e), ?_, by rw [Heap.size_push]; exact Nat.le_succ_of_le hz, h1, h2⟩
  · intro x hx
    simp only [List.mem_cons, List.not_mem_nil, or_false] at hx
    rw [Heap.size_push]
    rcases hx with rfl | rfl
    · exact Nat.lt_succ_self _
    · obtain ⟨o, e, _⟩ := hl; exact Nat.lt_succ_of_lt (Heap.lt_size e)
  · intro x hx; rw [List.mem_singleton.mp hx]; exact hIn
end
end Mine
end

section
open PySem PySem.W PySem.Calls PyProof.Rows
namespace Mine
set_option maxRecDepth 100000
set_option maxHeartbeats 4000000

theorem pick_upto (vs : List Value) (k : Nat) : slicePick vs.toArray none (some (k : Int)) none = (vs.take k).toArray := by
  rw [slicePick_upto']
theorem fr_ex {h₀ h : Heap} {L : Addr} {m : Str → Option Value} (F : Fr h₀ L h m) : ∃ o, h.get? L = some o := let ⟨o, _, _, e, _⟩ := F.ns; ⟨o, e⟩
theorem strs_app : ∀ {vs us : List Value} {ts xs : List Str}, StrsAre vs ts → StrsAre us xs → StrsAre (vs ++ us) (ts ++ xs)
  | _, _, _, _, .nil, r => r
  | _, _, _, _, .cons a b r, r2 => .cons a b (strs_app r r2)
theorem strs_take : ∀ {vs : List Value} {ts : List Str} (k : Nat), StrsAre vs ts → StrsAre (vs.take k) (ts.take k)
  | _, _, 0, _ => .nil
  | _, _, _ + 1, .nil => .nil
  | _, _, k + 1, .cons a b r => .cons a b (strs_take k r)
theorem ints_app : ∀ {vs us : List Value} {ts xs : List Int}, IntsAre vs ts → IntsAre us xs → IntsAre (vs ++ us) (ts ++ xs)
  | _, _, _, _, .nil, r => r
  | _, _, _, _, .cons a b r, r2 => .cons a b (ints_app r r2)
theorem ints_take : ∀ {vs : List Value} {ts : List Int} (k : Nat), IntsAre vs ts → IntsAre (vs.take k) (ts.take k)
  | _, _, 0, _ => .nil
  | _, _, _ + 1, .nil => .nil
  | _, _, k + 1, .cons a b r => .cons a b (ints_take k r)

section
variable {prog : Program} {w : World} {A : Around} {E : Value → Shared → Prop} {s : Shared}
/-- a list that has no name is cut by a slice object with a step -/
theorem list_cut3 {value slice : PySem.Expr} {l sl : Addr} {items : Array Value} {vl vu vs : Value} {lo hi st : Option Int} {ops : List Value} {Q : Value → Shared → Prop} (hl : s.heap.IsList l items) (hs : s.heap.IsSliceOf sl vl vu vs) (pl : IsPart vl lo) (pu : IsPart vu hi) (ps : IsPart vs st) (h0 : st ≠ some 0) (hsz : items.size ≤ 1000)
    (hsub : subscripted slice false (.ref l) (.ref sl) = operate ops (getItem (.ref l) (.ref sl)))
    (q : ∀ D h', (∀ b o, s.heap.get? b = some o → h'.get? b = some o) → s.heap.get? D = none → h'.get? D = some (listOf (slicePick items lo hi st) 0) → s.heap.objs.size ≤ h'.objs.size → Q (.ref D) { s with heap := h' }) :
    wpAny (model prog w) A (subscriptTail value slice (.ref l) (.ref sl)) Q E s :=
  kba_turn (value' := PySem.Expr.Name (PySem.Str.ofString "_") ⟨0, 0, 0, 0⟩) (fun _ => rfl) (subscriptTail_ops (Heap.IsList.typeIs hl) list_getitem_lookup
    (wpAny_getItem_list_slice hl hs pl pu ps h0 (q _ _ (fun b o e => Heap.get?_push_of_some _ e) (Heap.get?_none_of_le (Nat.le_refl _)) (Heap.get?_push_size _ rfl) (by rw [Heap.size_push]; exact Nat.le_succ _)) (by rw [sizeLine_eq]; omega)) hsub fun _ => rfl)
end

theorem law_holds : PySem.Challenge.rw_il0158_01.Holds := by
  exact hd (by
    k_go0
    rename World => w
    rename (hd.heap_39 _).In _ => X
    rename Top topProg _ _ _ _ (ghostOf _ _) => T
    rename Fr (ghostOf _ _) _ _ _ => F
    rename News _ _ _ _ => N
    rename IntsAre _ _ => hI
    rename Below _ _ _ _ => K
    rename Heap.IsList (ghostOf _ _) _ _ => hl
    rename CodeHd _ (61, 57).fst _ => C61
    rename CodeHd _ (94, 90).fst _ => C94
    rename Shared => s₁
    dsimp only at C61 C94
    dsimp only at F ⊢
    refine x_cons (x_assign (wpAny_BinOp ?_) rfl)
    rename Heap => h₁
    refine x_comp (h₀ := h₁) rfl (by decide) rfl (by decide) (by intro x; rfl) ?_
    refine Subscript_ ?_
    refine rname_L F.ns rfl ?_ rfl rfl
    refine wpAny_Slice ?_
    refine wpAny_evalPart_none (wpAny_evalPart_some (wpAny_Constant_int (wpAny_evalPart_none ?_)))
    have hl1 := hl.at (h' := h₁) fun o e => F.keep _ _ e
    dsimp only
    rename ¬ _ < (List.length _ : Int) => hcond
    rename List Value => vs
    rename List Int => script
    have hsl := hI.length
    have hvs63 : vs.toArray.size ≤ 1000 := by
      rw [List.size_toArray, hsl]
      have hc := hcond
      omega
    refine list_cut (hl1.push _) (Heap.IsSliceOf.new ..) .none (.int _ _) .none (by decide) hvs63 fun D h2 kp2 hD2 hDl sz2 => ?_
    dsimp only at kp2 hD2 hDl sz2 ⊢
    have kp12 : ∀ b o, h₁.get? b = some o → h2.get? b = some o := fun b o e => kp2 b o (Heap.get?_push_of_some _ e)
    have sz12 : h₁.objs.size ≤ h2.objs.size := Nat.le_trans (by rw [Heap.size_push]; exact Nat.le_succ _) sz2
    rw [show slicePick vs.toArray none (some 4) none = (vs.take 4).toArray from pick_upto vs 4] at hDl
    have hI4 := ints_take 4 hI
    have X1 := X.keeps F.keep
    have T1 := T.keeps F.keep
    refine over_list_at rfl ⟨_, hDl, rfl, _, rfl⟩ (by rw [List.size_toArray, List.length_take]; omega) kp12 sz12 (fun I C D i ys H => ∃ ts, StrsAre ys ts ∧ ∀ t ∈ ts, t.length ≤ 10 ∧ t ≠ ("#" : Str)) ?_
    intro I h3 kp3 hI1
    refine ⟨⟨fun C D => ⟨[], .nil, fun t ht => nomatch ht⟩, fun C D i ys h h' j _ => j, ?turn1⟩, ?fin1⟩
    case turn1 =>
      intro C D i v ys m H tkH E' hi hv J FC hD hCD hDo hwo
      obtain ⟨ts, e1, e2⟩ := J
      rw [List.getElem?_toArray] at hv
      obtain ⟨n, tn, hni, rfl⟩ := intsGet hI4 hv
      refine wpAny_assign_Name (store_keeps FC rfl rfl fun h4 tk4 F4 kp4 => ?_)
      replace F4 : Fr h₁ C h4 _ := F4
      replace kp4 : ∀ b o, b ≠ C → H.get? b = some o → h4.get? b = some o := kp4
      refine wpAny_tests_nil ?_
      rw [if_pos rfl]
      refine x_call_name (x_global (X1.keeps F4.keep) (T1.keeps F4.keep) (by k_is) ?_ rfl rfl rfl)
      refine callWith_args rfl (sp_cons ?_)
      refine rname_L F4.ns (show _ = some (Value.int n tn) from rfl) ?_ rfl rfl
      refine sp_nil ⟨⟨Keeper.frame, (Looks.ld ((X1.keeps F4.keep) 76 _ (by k_is))).andThen .now, by decide⟩, ?_⟩
      refine text_spec (X1.keeps F4.keep) (T1.keeps F4.keep) (by k_room) rfl fun t h5 tk5 tr kp5 hl5 hne5 => ?_
      refine ⟨h5, tk5, _, rfl, ⟨ts ++ [t], StrsAre.snoc' e1, fun x hx => ?_⟩, F4.ns.at' fun o e => kp5 _ o e, fun b o nb e => kp5 b o (kp4 b o nb e)⟩
      rcases List.mem_append.mp hx with hx | hx
      · exact e2 x hx
      · rw [List.mem_singleton.mp hx]; exact ⟨hl5, hne5⟩
    case fin1 =>
      intro C D2 h' tk ys hD hC hDC hCn hDl2 hyl hJ hk h4 k1 k2 k3
      obtain ⟨ts, hts, htsP⟩ := hJ
      clear k1 hk hDl2 hCn kp3 hDl kp2 hD2 sz2
      rw [List.size_toArray, List.length_take] at hyl
      have F4 : Fr _ _ h4 _ := F.keeps k3
      refine wpAny_List_spliced (sp_cons ?_)
      refine Calls.Constant_str ?_
      refine sp_cons ?_
      refine Calls.Constant_str ?_
      refine sp_cons ?_
      refine Calls.Constant_str ?_
      refine sp_nil ⟨by (show 3 ≤ sizeLine; decide), ?_⟩
      dsimp only
      refine list_add (xs := ys.toArray) (n := ys.length) (m := 0) (Heap.get?_push_of_some _ k2) (Heap.get?_push_size _ rfl) (by rw [List.size_toArray, List.size_toArray]; show ys.length + 3 ≤ 1000; omega) fun G h5 kp5 hGn hG => ?_
      have kp45 : ∀ b o, h4.get? b = some o → h5.get? b = some o := fun b o e => kp5 b o (Heap.get?_push_of_some _ e)
      rw [List.append_toArray] at hG
      have hgv : ∃ tv texts, h5.get? G = some (listOf tv.toArray 0) ∧ StrsAre tv texts ∧ texts.length ≤ 7 ∧ ∀ t ∈ texts, t.length ≤ 10 ∧ t ≠ ("#" : Str) := by
        refine ⟨_, ts ++ [("a...b" : Str), ("abaabb" : Str), ("ab...bb" : Str)], hG, strs_app hts (.cons _ _ (.cons _ _ (.cons _ _ .nil))), ?_, fun x hx => ?_⟩
        · have := StrsAre.length' hts
          rw [List.length_append, ← this]
          show ys.length + 3 ≤ 7
          omega
        · rcases List.mem_append.mp hx with hx | hx
          · exact htsP x hx
          · simp only [List.mem_cons, List.not_mem_nil, or_false] at hx
            rcases hx with rfl | rfl | rfl <;> decide
      obtain ⟨tv, texts, hGl, htv, htn, htP⟩ := hgv
      clear hG hts htsP hyl
      have F5 : Fr _ _ h5 _ := F4.keeps kp45
      have hGL : G ≠ s₁.heap.objs.size := fun ea => by
        obtain ⟨o, e⟩ := fr_ex F4
        replace e : h4.get? s₁.heap.objs.size = some o := e
        rw [ea, Heap.get?_push_of_some _ e] at hGn; cases hGn
      have k15 : ∀ b o, h₁.get? b = some o → h5.get? b = some o := fun b o e => kp45 b o (k3 b o e)
      clear kp5 kp45 hGn k2 k3
      refine store_keeps F5 rfl rfl fun h6 tk6 F6 kp6 => ?_
      have hG6 := kp6 _ _ hGL hGl
      replace F6 : Fr _ _ h6 _ := F6
      -- turned
      refine x_cons (x_assign_comp (h₀ := h6) rfl rfl (by decide) rfl (by decide) (by intro x; rfl) ?_)
      refine Subscript_ ?_
      refine rname_L F6.ns (show _ = some (Value.ref G) from rfl) ?_ rfl rfl
      refine wpAny_Slice ?_
      refine wpAny_evalPart_none (wpAny_evalPart_some (wpAny_Constant_int (wpAny_evalPart_none ?_)))
      dsimp only
      have htvl := StrsAre.length' htv
      have hG6l : h6.IsList G tv.toArray := ⟨_, hG6, rfl, _, rfl⟩
      refine list_cut (hG6l.push _) (Heap.IsSliceOf.new ..) .none (.int _ _) .none (by decide) (by rw [List.size_toArray]; omega) fun D3 h7 kp7 hD3 hDl3 sz7 => ?_
      dsimp only at kp7 hD3 hDl3 sz7 ⊢
      have kp67 : ∀ b o, h6.get? b = some o → h7.get? b = some o := fun b o e => kp7 b o (Heap.get?_push_of_some _ e)
      have sz67 : h6.objs.size ≤ h7.objs.size := Nat.le_trans (by rw [Heap.size_push]; exact Nat.le_succ _) sz7
      rw [show slicePick tv.toArray none (some 3) none = (tv.take 3).toArray from pick_upto tv 3] at hDl3
      have hI3 := strs_take 3 htv
      refine over_list_at rfl ⟨_, hDl3, rfl, _, rfl⟩ (by rw [List.size_toArray, List.length_take]; omega) kp67 sz67 (fun I C D i ys H => ∃ ts, StrsAre ys ts ∧ ∀ t ∈ ts, t.length ≤ 1000) ?_
      intro I2 h8 kp8 hI2
      refine ⟨⟨fun C D => ⟨[], .nil, fun t ht => nomatch ht⟩, fun C D i ys h h' j _ => j, ?turn2⟩, ?fin2⟩
      case turn2 =>
        intro C D i v ys m H tkH E' hi hv J FC hD hCD hDo hwo
        obtain ⟨ts, e1, e2⟩ := J
        rw [List.getElem?_toArray] at hv
        obtain ⟨tx, ttk, htx, rfl⟩ := StrsAre.get' hI3 hv
        have htm : tx ∈ texts := List.mem_of_mem_take (List.mem_of_getElem? htx)
        refine wpAny_assign_Name (store_keeps FC rfl rfl fun h9 tk9 F9 kp9 => ?_)
        replace F9 : Fr h6 C h9 _ := F9
        replace kp9 : ∀ b o, b ≠ C → H.get? b = some o → h9.get? b = some o := kp9
        refine wpAny_tests_nil ?_
        rw [if_pos rfl]
        refine Subscript_ ?_
        refine rname_L F9.ns (show _ = some (Value.str tx ttk) from rfl) ?_ rfl rfl
        refine wpAny_Slice ?_
        refine wpAny_evalPart_none (wpAny_evalPart_none (wpAny_evalPart_some (wpAny_UnaryOp (wpAny_Constant_int (PyProof.Rows.neg_int ?_)))))
        dsimp only
        refine str_rev ⟨_, Heap.get?_push_size _ rfl, rfl, rfl⟩ (by have := (htP tx htm).1; omega) fun t' k => ?_
        refine ⟨_, k, _, rfl, ⟨ts ++ [_], StrsAre.snoc' e1, fun x hx => ?_⟩, F9.ns.at' fun o e => Heap.get?_push_of_some _ e, fun b o nb e => Heap.get?_push_of_some _ (kp9 b o nb e)⟩
        rcases List.mem_append.mp hx with hx | hx
        · exact e2 x hx
        · rw [List.mem_singleton.mp hx]
          refine Nat.le_trans (Txt.sliceBy_le tx _ _ _ (by simp)) (by have := (htP tx htm).1; omega)
      case fin2 =>
        intro C2 D4 h9 tk9 ys2 hD4 hC2 hDC2 hCn2 hDl4 hyl2 hJ2 hk9
        obtain ⟨ts2, hts2, hts2P⟩ := hJ2
        rw [List.size_toArray, List.length_take] at hyl2
        have F9 : Fr _ _ h9 _ := F6.keeps hk9
        refine store_keeps F9 rfl rfl fun h10 tk10 F10 kp10 => ?_
        replace F10 : Fr _ _ h10 _ := F10
        dsimp only at kp10 ⊢
        obtain ⟨m2, hn2⟩ := hCn2
        obtain ⟨oL, eL⟩ := fr_ex F6
        replace eL : h6.get? s₁.heap.objs.size = some oL := eL
        have hCL : C2 ≠ s₁.heap.objs.size := fun ea => by rw [ea, eL] at hC2; cases hC2
        refine ⟨⟨m2, hn2.at' fun o e => kp10 C2 o hCL e⟩, fun h11 k11 => ?_⟩
        have k611 : ∀ b o, b ≠ s₁.heap.objs.size → h6.get? b = some o → h11.get? b = some o := fun b o nb e => k11 b o (fun ea => by rw [ea, hC2] at e; cases e) (kp10 b o nb (hk9 b o e))
        have F11 : Fr (ghostOf s₁.heap [(61, 57), (94, 90)]) s₁.heap.objs.size h11 _ := ⟨F10.ns.at' fun o e => k11 _ o (Ne.symm hCL) e, fun a o e => k11 a o (fun ea => by have := F6.keep a o e; rw [ea, hC2] at this; cases this) (F10.keep a o e), F10.above⟩
        have hGl11 : h11.IsList G tv.toArray := ⟨_, k611 _ _ hGL hG6, rfl, _, rfl⟩
        have hDL4 : D4 ≠ s₁.heap.objs.size := fun ea => by rw [ea, eL] at hD4; cases hD4
        have hDl11 : h11.IsList D4 ys2.toArray := ⟨_, k11 _ _ hDC2 (kp10 _ _ hDL4 hDl4), rfl, _, rfl⟩
        have k111 : ∀ b o, b ≠ s₁.heap.objs.size → h₁.get? b = some o → h11.get? b = some o := fun b o nb e => k611 b o nb (kp6 b o nb (k15 b o e))
        clear k11 k611 kp10 hk9 hDl4 F10 F9 F6 kp6 hn2 hC2 hD4 hDC2 kp8 kp7 kp67 hDl3 hD3 sz7 sz67 hG6l hG6 hI2
        -- the ladder
        refine x_cons (x_ret (x_call_name ?_))
        refine x_global (X.keeps F11.keep) (T.keeps F11.keep) (by k_is) ?_ rfl rfl rfl
        refine callWith_args rfl (sp_cons ?_)
        refine rname_L F11.ns (show _ = some (Value.ref G) from rfl) ?_ rfl rfl
        refine sp_cons ?_
        refine rname_L F11.ns (show _ = some (Value.ref D4) from rfl) ?_ rfl rfl
        refine sp_cons ?_
        refine Subscript_ ?_
        refine x_call_name (x_builtin (X.keeps F11.keep) (T.keeps F11.keep) (by k_is) (by boot_fast) (by decide) ?_ rfl rfl rfl rfl)
        refine callWith_args rfl (sp_cons ?_)
        refine wpAny_BinOp ?_
        refine Subscript_ ?_
        refine rname_L F11.ns rfl ?_ rfl rfl
        refine wpAny_Slice ?_
        refine wpAny_evalPart_none (wpAny_evalPart_some (wpAny_Constant_int (wpAny_evalPart_none ?_)))
        have hl11 := hl.at (h' := h11) fun o e => F11.keep _ _ e
        dsimp only
        refine list_cut (hl11.push _) (Heap.IsSliceOf.new ..) .none (.int _ _) .none (by decide) hvs63 fun D5 h12 kp12' hD5 hDl5 sz12' => ?_
        dsimp only at kp12' hD5 hDl5 sz12' ⊢
        rw [show slicePick vs.toArray none (some 2) none = (vs.take 2).toArray from pick_upto vs 2] at hDl5
        have hI2 := ints_take 2 hI
        have kp1112 : ∀ b o, h11.get? b = some o → h12.get? b = some o := fun b o e => kp12' b o (Heap.get?_push_of_some _ e)
        refine wpAny_List_spliced (sp_cons (wpAny_Constant_int ?_))
        refine sp_cons (wpAny_Constant_int ?_)
        refine sp_cons (wpAny_Constant_int ?_)
        refine sp_cons (wpAny_Constant_int ?_)
        refine sp_cons (wpAny_Constant_int ?_)
        refine sp_cons (wpAny_Constant_int ?_)
        refine sp_nil ⟨by (show 6 ≤ sizeLine; decide), ?_⟩
        dsimp only
        have hlen2 : (vs.take 2).length ≤ 2 := by rw [List.length_take]; omega
        refine list_add (xs := (vs.take 2).toArray) (n := 0) (m := 0) (Heap.get?_push_of_some _ hDl5) (Heap.get?_push_size _ rfl) (by rw [List.size_toArray, List.size_toArray]; show (vs.take 2).length + 6 ≤ 1000; omega) fun W h13 kp13 hWn hW => ?_
        have kp1113 : ∀ b o, h11.get? b = some o → h13.get? b = some o := fun b o e => kp13 b o (Heap.get?_push_of_some _ (kp1112 b o e))
        rw [List.append_toArray] at hW
        have hww : ∃ wv ws, h13.get? W = some (listOf wv.toArray 0) ∧ IntsAre wv ws ∧ wv.length < 64 := ⟨_, _, hW, ints_app hI2 (.cons 8 _ (.cons 6 _ (.cons 5 _ (.cons 4 _ (.cons 2 _ (.cons 0 _ .nil)))))), by rw [List.length_append]; show (vs.take 2).length + 6 < 64; omega⟩
        obtain ⟨wv, ws, hWl, hIW, hwl⟩ := hww
        clear hW kp13 hWn kp1112 hDl5 kp12' hD5 sz12'
        dsimp only
        refine sp_nil ⟨⟨Keeper.machine, Looks.of_pure rfl, by decide⟩, ?_⟩
        refine sorted_raw ⟨_, hWl, rfl, _, rfl⟩ hIW hwl fun D6 h14 vs6 ns6 e6 kp14 hD6 hD6n hI6 hperm hpw => ?_
        dsimp only at kp14 hD6 hD6n ⊢
        have hn6 : vs6.length < 64 := by rw [hI6.length, hperm.length_eq, ← hIW.length]; exact hwl
        have kp1114 : ∀ b o, h11.get? b = some o → h14.get? b = some o := fun b o e => kp14 b o (kp1113 b o e)
        refine wpAny_Slice ?_
        refine wpAny_evalPart_none (wpAny_evalPart_none (wpAny_evalPart_some (wpAny_UnaryOp (wpAny_Constant_int (PyProof.Rows.neg_int ?_)))))
        dsimp only
        have hD6l : h14.IsList D6 vs6.toArray := ⟨_, hD6, rfl, _, rfl⟩
        refine list_cut3 (hD6l.push _) (Heap.IsSliceOf.new ..) .none .none (.int _ _) (by decide) (by rw [List.size_toArray]; omega) rfl fun D7 h15 kp15 hD7 hDl7 sz15 => ?_
        dsimp only at kp15 hD7 hDl7 sz15 ⊢
        have kp1115 : ∀ b o, h11.get? b = some o → h15.get? b = some o := fun b o e => kp15 b o (Heap.get?_push_of_some _ (kp1114 b o e))
        rw [show slicePick vs6.toArray none none (some (-1)) = vs6.reverse.toArray from (krv_pick _).trans (by rw [List.toList_toArray])] at hDl7
        refine sp_nil ⟨⟨Keeper.frame, (Looks.ld ((X.keeps fun a o e => kp1115 a o (F11.keep a o e)) 100 _ (by k_is))).andThen .now, by decide⟩, ?_⟩
        have F15 : Fr (ghostOf s₁.heap [(61, 57), (94, 90)]) s₁.heap.objs.size h15 _ := F11.keeps kp1115
        have h105 : 105 < s₁.heap.objs.size := Nat.lt_of_lt_of_le (Heap.lt_size (X 105 _ (by k_is))) F11.above
        have n57 : (57 : Nat) ≠ s₁.heap.objs.size := by omega
        have n90 : (90 : Nat) ≠ s₁.heap.objs.size := by omega
        obtain ⟨N57, -, N57n⟩ := N (57, tabObj #[]) (by simp)
        obtain ⟨N90, -, N90n⟩ := N (90, tabObj #[]) (by simp)
        dsimp only at N57 N57n N90 N90n
        refine ladder_spec X T F15.keep (Nat.le_trans F15.above (Nat.le_of_lt F15.ns.lt)) N57n N90n C61 C94 (.inl (kp1115 _ _ (k111 _ _ n57 N57))) (.inl (kp1115 _ _ (k111 _ _ n90 N90))) (by k_room) (by rw [units_deeper]; decide) rfl
          (hGl11.at fun o e => kp1115 _ o e) htv (fun t ht => by have := (htP t ht).1; omega) (by omega) (hDl11.at fun o e => kp1115 _ o e) hts2 hts2P (by have := StrsAre.length' hts2; omega)
          ⟨_, hDl7, rfl, _, rfl⟩ hI6.reverse (plain_good (by omega) (fun t ht => ⟨by have := (htP t ht).1; omega, (htP t ht).2⟩) (List.pairwise_reverse.mpr hpw)) fun h16 tk16 kp16 t57 t90 => ?_
        have F16 : Fr (ghostOf s₁.heap [(61, 57), (94, 90)]) s₁.heap.objs.size h16 _ := ⟨F15.ns.at' fun o e => kp16 _ o (Ne.symm n57) (Ne.symm n90) e, fun a o e => kp16 a o (fun ea => by rw [ea, N57n] at e; cases e) (fun ea => by rw [ea, N90n] at e; cases e) (F15.keep a o e), F15.above⟩
        refine ⟨?_, ⟨?_, ?_, trivial⟩⟩
        · refine goodW_bool F16 (by assumption) (raisesW_false ?_) ?_
          · wrow_none_raised
          · wrow_post
        · rcases t57 with e | ⟨_, e, _⟩ <;> exact ⟨_, e⟩
        · rcases t90 with e | ⟨_, e, _⟩ <;> exact ⟨_, e⟩)
end Mine
end

set_option maxRecDepth 100000 in
set_option maxHeartbeats 8000000 in
theorem PySem.Challenge.cw_il0158_01_holds : PySem.Challenge.rw_il0158_01.Holds := by
  exact Mine.law_holds
