import PyProof.Rows.All
import Wide.All
import OpenK.AllK
import Wide.FinOn
import PySem.Challenge.RW_pm0024_01

set_option Elab.async false

section
open PySem PySem.W PyProof.Rows
namespace Mine
set_option maxRecDepth 100000 in
set_option maxHeartbeats 8000000 in
open_top hd for PySem.Challenge.rw_pm0024_01
end Mine
end

section
open PySem PySem.W PyProof.Rows PySem.Calls
set_option maxRecDepth 100000
namespace Mine

noncomputable abbrev KK (w : World) : Frag := hd.heap_39 w.params

/-- what the written part of the heap says of a global name -/
def globK (K : Frag) (x : Str) : Option Value := match K.lookup mainGlobals with
  | some ⟨_, _, .dict es _, _⟩ => nsFind es x
  | _ => none

structure G0 (w : World) (h : Heap) : Prop where
  kin : (KK w).In h
  b : ∃ mb, h.Ns builtinsNs mb ∧ ∀ x : Str, x ≠ "__name__" → mb x = bootBuiltins x
  bmod : ∃ o, h.get? 4 = some o ∧ o.cls = .type "module" ∧ o.dict = some builtinsNs ∧ o.data = .plain
  lim : h.NoLimit

/-- a code object with its table of nested code -/
def Tab (h : Heap) (c P : Addr) : Prop := ∃ ps, h.IsCode c P ps ∧ h.TableAt c P ps
theorem Tab.two {h h' : Heap} {c P : Addr} (t : Tab h c P) (k1 : ∀ o, h.get? c = some o → h'.get? c = some o) (k2 : ∀ o, h.get? P = some o → h'.get? P = some o) : Tab h' c P := by
  obtain ⟨ps, ⟨o, vs, file, tf, flags, tg, inF, text, tt, op, a, r1, r2, r3, r4, r5, r6, b, r⟩, ⟨o', vs', e, r'⟩, e'⟩ := t
  exact ⟨ps, ⟨o, vs, file, tf, flags, tg, inF, text, tt, op, k1 _ a, r1, r2, r3, r4, r5, r6, k2 _ b, r⟩, ⟨o', vs', k1 _ e, r'⟩, k2 _ e'⟩
theorem Tab.lt {h : Heap} {c P : Addr} (t : Tab h c P) : c < h.objs.size ∧ P < h.objs.size := let ⟨_, x, _⟩ := t; x.lt
theorem Tab.ne {h : Heap} {c P : Addr} (t : Tab h c P) {b : Addr} {o : Obj} (e : h.get? b = some o) (hc : o.cls ≠ .none) : b ≠ P := by
  rintro rfl
  obtain ⟨_, _, _, t2⟩ := t
  rw [t2] at e
  cases e
  exact hc rfl

structure Gd (w : World) (h : Heap) : Prop extends G0 w h where
  t1 : Tab h 94 90
  t2 : Tab h 101 97

theorem k90 (w : World) : ∀ a o, (KK w).lookup a = some o → a ≠ 90 ∧ a ≠ 97 := by
  intro a o e
  constructor
  · rintro rfl
    have : (KK w).lookup 90 = none := by rfl
    rw [this] at e; cases e
  · rintro rfl
    have : (KK w).lookup 97 = none := by rfl
    rw [this] at e; cases e

theorem G0.but {w : World} {h h' : Heap} (G : G0 w h) (k : ∀ b o, b ≠ 90 → b ≠ 97 → h.get? b = some o → h'.get? b = some o) : G0 w h' := by
  refine ⟨fun a o e => k a o (k90 w a o e).1 (k90 w a o e).2 (G.kin a o e), ?_, ?_, ?_⟩
  · obtain ⟨mb, ⟨o, es, ep, ho, r⟩, b⟩ := G.b
    exact ⟨mb, ⟨o, es, ep, k _ _ (by decide) (by decide) ho, r⟩, b⟩
  · obtain ⟨o, ho, r⟩ := G.bmod
    exact ⟨o, k _ _ (by decide) (by decide) ho, r⟩
  · obtain ⟨mc, ⟨o, es, ep, ho, r⟩, b⟩ := G.lim
    exact ⟨mc, ⟨o, es, ep, k _ _ (by decide) (by decide) ho, r⟩, b⟩
theorem G0.keeps {w : World} {h h' : Heap} (G : G0 w h) (k : ∀ b o, h.get? b = some o → h'.get? b = some o) : G0 w h' := G.but fun b o _ _ => k b o

theorem Gd.keeps {w : World} {h h' : Heap} (G : Gd w h) (k : ∀ b o, h.get? b = some o → h'.get? b = some o) : Gd w h' :=
  ⟨G.toG0.keeps k, G.t1.two (k _) (k _), G.t2.two (k _) (k _)⟩

/-- a read-only step: all that stood stands, but for the two tables of nested code -/
structure Kp (w : World) (s s' : Shared) : Prop where
  keep : ∀ b o, b ≠ 90 → b ≠ 97 → s.heap.get? b = some o → s'.heap.get? b = some o
  gd : Gd w s.heap → Gd w s'.heap
  gens : AllBare s.gens → AllBare s'.gens
  os : s'.os = s.os

theorem Kp.refl (w : World) (s : Shared) : Kp w s s := ⟨fun _ _ _ _ e => e, id, id, rfl⟩
theorem Kp.trans {w : World} {s s' s'' : Shared} (x : Kp w s s') (y : Kp w s' s'') : Kp w s s'' :=
  ⟨fun b o h1 h2 e => y.keep b o h1 h2 (x.keep b o h1 h2 e), fun g => y.gd (x.gd g), fun g => y.gens (x.gens g), y.os.trans x.os⟩
theorem Kp.cls {w : World} {s s' : Shared} (x : Kp w s s') (G : Gd w s.heap) {b : Addr} {o : Obj} (hc : o.cls ≠ .none) (e : s.heap.get? b = some o) : s'.heap.get? b = some o :=
  x.keep b o (G.t1.ne e hc) (G.t2.ne e hc) e
theorem Kp.of {w : World} {s : Shared} {h' : Heap} {tk : Nat} (k : ∀ b o, s.heap.get? b = some o → h'.get? b = some o) : Kp w s { s with heap := h', toks := tk } :=
  ⟨fun b o _ _ e => k b o e, fun g => g.keeps k, id, rfl⟩

theorem globK_ns {w : World} {h : Heap} (G : G0 w h) : h.Ns mainGlobals (globK (KK w)) := by
  have e : ∃ o es ep, (KK w).lookup mainGlobals = some o ∧ o.data = .dict es ep ∧ StrKeys es := by
    refine ⟨_, _, _, by rfl, by rfl, ?_⟩
    intro e he
    simp only [List.mem_toArray, List.mem_cons, List.not_mem_nil, or_false] at he
    rcases he with h | h | h | h | h | h | h | h | h | h | h | h | h | h | h | h | h | h <;> (subst h; exact ⟨_, _, rfl⟩)
  obtain ⟨⟨c, d, dt, sl⟩, es, ep, ho, hd, hk⟩ := e
  cases hd
  refine ⟨_, es, ep, G.kin _ _ ho, rfl, hk, fun x => ?_⟩
  unfold globK
  rw [ho]

theorem nm_glob {prog : Program} {w : World} {A : Around} {E : Value → Shared → Prop} {s : Shared} {env : Env} {x : Str} {p : Pos} {v : Value} {Q : Value → Shared → Prop}
    (G : G0 w s.heap) (hv : globK (KK w) x = some v) (h : Q v s) (hg : env.globals = mainGlobals := by rfl) (hk : env.scope.kind = .function := by rfl) (hx : env.kindOf x = some .globalImplicit := by rfl)
    (hd : (x == ("__debug__" : Str)) = false := by decide) : wpAny (model prog w) A (eval (.Name x p) env) Q E s :=
  Name_function_global hk hx (loadGlobal_global (hg ▸ globK_ns G) hv h) hd

theorem nm_builtin {prog : Program} {w : World} {A : Around} {E : Value → Shared → Prop} {s : Shared} {env : Env} {x : Str} {p : Pos} {v : Value} {Q : Value → Shared → Prop}
    (G : G0 w s.heap) (hn : globK (KK w) x = none) (hv : bootBuiltins x = some v) (h : Q v s) (hb : env.builtins = builtinsNs := by rfl) (hg : env.globals = mainGlobals := by rfl) (hk : env.scope.kind = .function := by rfl) (hx : env.kindOf x = some .globalImplicit := by rfl)
    (hd : (x == ("__debug__" : Str)) = false := by decide) (hne : x ≠ "__name__" := by decide) : wpAny (model prog w) A (eval (.Name x p) env) Q E s := by
  obtain ⟨mb, hmb, hbv⟩ := G.b
  exact Name_function_global hk hx (loadGlobal_builtin (hg ▸ globK_ns G) hn (hb ▸ hmb) ((hbv x hne).trans hv) h) hd

theorem g_len (w : World) : globK (KK w) "len" = none := by kernel_rfl
theorem g_sum (w : World) : globK (KK w) "sum" = none := by kernel_rfl
theorem g_bis (w : World) : globK (KK w) "bisect_right" = some (.ref 39) := by kernel_rfl
theorem g_bi (w : World) : globK (KK w) "__builtins__" = some (.ref 4) := by kernel_rfl
theorem b_len : bootBuiltins "len" = some (.builtin "len") := by boot_fast
theorem b_sum : bootBuiltins "sum" = some (.builtin "sum") := by boot_fast

theorem bi_for {M : Model} {w : World} {A : Around} {E : Value → Shared → Prop} {s : Shared} {g r : Addr} {Q : Addr → Shared → Prop} (G : G0 w s.heap) (h : Q builtinsNs s) (hg : g = mainGlobals := by rfl) : wpAny M A (builtinsFor g r) Q E s := by
  subst hg
  obtain ⟨o, ho, h1, h2, h3⟩ := G.bmod
  exact wpAny_builtinsFor (globK_ns G) (g_bi w) (by decide) ho h1 h2 h3 h
end Mine
end

section
open PySem PySem.W PyProof.Rows PySem.Calls
set_option maxRecDepth 100000
namespace Mine

abbrev lineObj (d : Addr) (items : Array Value) (n : Nat) : Obj := { cls := .ref 128, dict := some d, data := .seq items n }
abbrev pairObj (x : Str) (t1 t2 : Tok) : Obj := { cls := .type "tuple", data := .seq #[.str " " t1, .str x t2] }

structure LineIs (h : Heap) (a : Addr) (mg : Int) (ws : List Str) (d : Addr) (Ts : List Addr) (n : Nat) : Prop where
  at_ : h.get? a = some (lineObj d (Ts.map Value.ref).toArray n)
  dict : ∃ es k t, h.get? d = some (dictOf es k) ∧ getL "_initial_size" es = some (some (.int mg t)) ∧ ∀ x : Str, x ≠ "_initial_size" → getL x es = some none
  len : Ts.length = ws.length
  pair : ∀ (i : Nat) (T : Addr) (x : Str), Ts[i]? = some T → ws[i]? = some x → ∃ t1 t2, h.get? T = some (pairObj x t1 t2)

def signs (ws : List Str) : Int := (ws.map fun w => (1 + w.length : Int)).sum

section
variable {prog : Program} {w : World} {A : Around} {E : Value → Shared → Prop} {s : Shared} {M : Model} {h : Heap} {a d : Addr} {items : Array Value} {n : Nat}

theorem ln_type (e : h.get? a = some (lineObj d items n)) : Looks M h (typeOf (.ref a)) (.ref 128) := (Looks.ld e).andThen .now
theorem ln_special (G : G0 w h) (e : h.get? a = some (lineObj d items n)) {name : Str} {r : Option Value} (q : findIn (KK w) (.ref 128) name = some r) : Looks M h (specialOf (.ref a) name) r :=
  (ln_type e).andThen (looks_findIn G.kin q)
theorem ln_isList (G : G0 w h) (e : h.get? a = some (lineObj d items n)) : Looks M h (isInstance (.ref a) (.type "list")) true :=
  (ln_type e).andThen (looks_subIn G.kin (by rfl : subIn (KK w) (.ref 128) (.type "list") = some true))

theorem check_meth {i owner n : String} {self : Value} {rest : List Value} {kw : List (Str × Value)} {Q : Unit → Shared → Prop}
    (hk : builtinKind i = some .slot ∨ builtinKind i = some .method) (hs : splitId i = some (owner, n)) (hi : Looks M s.heap (isInstance self (.type owner)) true) (ha : argsOk i ⟨self :: rest, kw⟩) (q : Q () s) :
    wpAny M A (checkBuiltinCall i ⟨self :: rest, kw⟩) Q E s := by
  rcases hk with hk | hk
  · exact check_slot hk hs hi ha q
  simp only [checkBuiltinCall, hk, hs]
  refine wpAny_bind (hi.here ?_)
  simp only [Bool.not_true, Bool.false_eq_true, if_false]
  cases hsig : Manifest.signature? i with
  | none => exact wpAny_pure q
  | some sig =>
    simp only [argsOk, hsig] at ha
    have h2 : Bind.checkArgs i sig ⟨self :: rest, kw⟩ = pure () := ha
    show wpAny M A (Bind.checkArgs i sig ⟨self :: rest, kw⟩) Q E s
    rw [h2]; exact wpAny_pure q

/-- a method of list, on a line -/
theorem call_list {id nm : String} {b : Builtin} {rest : List Value} {Q : Value → Shared → Prop} (G : G0 w s.heap) (e : s.heap.get? a = some (lineObj d items n))
    (hk : builtinKind id = some .slot ∨ builtinKind id = some .method) (hs : splitId id = some ("list", nm)) (hp : plainId id = true) (hb : entryFor table id = some b) (ha : argsOk id ⟨.ref a :: rest, []⟩)
    (hc : wpAny (model prog w) A.in1 (b ⟨.ref a :: rest, []⟩) (fun fin s' => ∃ v, fin = .done (.ret v) ∧ Q v s') E s) :
    wpAny (model prog w) A (call (.builtin id) (.ref a :: rest)) Q E s := by
  refine wpAny_call (codeAny_call_builtin hp hb (check_meth hk hs (ln_isList G e) ha (wpAny_mono hc (fun fin s' h' => ?_) fun _ _ h' => h')))
  obtain ⟨v, rfl, hv⟩ := h'; exact hv

theorem sp_list_iter (self : Value) : bindSpecial (.builtin "list.__iter__") self = pure (.builtin "list.__iter__", [self]) := by kernel_rfl

theorem iter_line {Q : Value → Shared → Prop} (G : G0 w s.heap) (e : s.heap.get? a = some (lineObj d items n))
    (hQ : Q (.ref s.heap.objs.size) { s with heap := s.heap.push { cls := .type "list_iterator", data := .fields #[.ref a, .int 0 0] } }) :
    wpAny (model prog w) A (pyIter (.ref a)) Q E s := by
  have sp : Looks (model prog w) s.heap (specialOf (.ref a) "__iter__") (some (.builtin "list.__iter__")) := ln_special G e (by kernel_rfl)
  have hc : wpAny (model prog w) A (call (.builtin "list.__iter__") [.ref a]) (fun it s' => ∃ T' r, s'.TypeIs it T' ∧ typeLookup (.type T') "__next__" = pure (some r) ∧ Q it s') E s := by
    refine call_list (nm := "__iter__") G e (.inl (by decide +kernel)) (by decide +kernel) (by decide +kernel) entry_list_iter (args_list_iter _) ?_
    show wpAny _ _ (do ret (← newFields "list_iterator" [.ref a, rawInt 0])) _ _ s
    exact wpAny_bind (wpAny_newObj_type (wpAny_pure ⟨_, rfl, "list_iterator", _, ⟨_, Heap.get?_push_size _ rfl, rfl⟩, slot_listiter_next.lookup, hQ⟩))
  unfold pyIter
  refine wpAny_bind (sp.here ?_)
  show wpAny _ A (callSpecialIfBoundUnlessNone? (.ref a) "__iter__" _ >>= _) Q E s
  refine wpAny_bind ?_
  simp only [callSpecialIfBoundUnlessNone?, bindSpecialIfBound?]
  refine wpAny_holding (wpAny_bind (wpAny_bind (sp.here ?_)))
  simp only [sp_list_iter]
  refine wpAny_bind (wpAny_askSetting (wpAny_ite ?_))
  have fin : ∀ (refuse : Sem Value) (Q' : Option Value → Shared → Prop), wpAny (model prog w) A (call (.builtin "list.__iter__") [.ref a]) (fun v => Q' (some v)) E s → wpAny (model prog w) A (if (Value.builtin "list.__iter__" == Value.none) = true then (refuse >>= fun v => pure (some v)) else (call (.builtin "list.__iter__") [.ref a] >>= fun v => pure (some v))) Q' E s := by
    intro refuse Q' hc
    simp only [builtin_beq_none, Bool.false_eq_true, if_false]
    exact wpAny_bind (wpAny_mono hc (fun v s' h' => wpAny_pure h') fun _ _ h' => h')
  have fin2 : wpAny (model prog w) A (call (.builtin "list.__iter__") [.ref a]) (fun v s' => wpAny (model prog w) A (specialOf v "__next__" >>= fun x => match x with
      | none => (do rule "iter.non-iterator"; raiseError "TypeError" s!"iter() returned non-iterator of type '{← typeNameOf v}'")
      | some _ => pure v) Q E s') E s := by
    refine wpAny_mono hc (fun it s' h' => ?_) fun _ _ x => x
    obtain ⟨T', r, hT', hl, hQ⟩ := h'
    exact wpAny_bind (wpAny_specialOf hT' hl (wpAny_pure hQ))
  split
  · exact wpAny_bind (wpAny_pure (wpAny_pure (fin _ _ fin2)))
  · exact wpAny_tryCatch (wpAny_bind (wpAny_pure (wpAny_pure (fin _ _ fin2))))

theorem nx_item {it l : Addr} {o : Obj} {i k : Nat} {xs : Array Value} {x : Value} {Q : Option Value → Shared → Prop} (hit : s.heap.IsListIter it l i)
    (hl : s.heap.get? l = some o) (hdl : o.data = .seq xs k) (hx : xs[i]? = some x)
    (hQ : ∀ h', h'.IsListIter it l (i + 1) → Heap.SameBut it s.heap h' → Q (some x) { s with heap := h' }) :
    wpAny (model prog w) A (pyNext (.ref it)) Q E s := by
  obtain ⟨oi, ho, hc, hd⟩ := id hit
  unfold pyNext
  refine wpAny_bind (wpAny_attempt (wpAny_callSpecial?_slot (name := Str.ofString "__next__") hit.typeIs slot_listiter_next
    (wpAny_call_entry slot_listiter_next hit.typeIs entry_listiter_next ?_ (args_listiter_next _))))
  show wpAny _ _ (field (.ref it) 0 >>= _) _ _ s
  refine wpAny_bind (wpAny_field ho hd (x := .ref l) rfl ?_)
  show wpAny _ _ (if (Value.ref l == Value.none) = true then _ else _) _ _ s
  rw [if_neg (show ¬ ((Value.ref l == Value.none) = true) from Bool.false_ne_true)]
  show wpAny _ _ (field (.ref it) 1 >>= _) _ _ s
  refine wpAny_bind (wpAny_field ho hd (x := .int i 0) rfl ?_)
  show wpAny _ _ (seqItems? (.ref l) >>= _) _ _ s
  refine wpAny_bind (wpAny_seqItems hl hdl ?_)
  simp only [Int.toNat_natCast, hx]
  refine wpAny_bind (wpAny_setField ho hd (by simp) (wpAny_pure ⟨x, rfl, wpAny_pure (hQ _ ?_ (Heap.SameBut.update ..))⟩))
  exact ⟨_, Heap.get?_update_self _ ho (Obj.isFreed_of_fields (Obj.data_mapFields hd _)), (Obj.cls_mapFields ..).trans hc, by
    rw [Obj.data_mapFields hd]; simp [rawInt]⟩

theorem nx_end {it l : Addr} {o : Obj} {i k : Nat} {xs : Array Value} {Q : Option Value → Shared → Prop} (hh : A.handled = none)
    (hit : s.heap.IsListIter it l i) (hl : s.heap.get? l = some o) (hdl : o.data = .seq xs k) (hx : xs[i]? = none)
    (hQ : ∀ h', Heap.ExtBut it s.heap h' → Q none { s with heap := h' }) : wpAny (model prog w) A (pyNext (.ref it)) Q E s := by
  obtain ⟨oi, ho, hc, hd⟩ := id hit
  unfold pyNext
  refine wpAny_bind (wpAny_attempt (wpAny_callSpecial?_slot (name := Str.ofString "__next__") hit.typeIs slot_listiter_next
    (wpAny_call_entry slot_listiter_next hit.typeIs entry_listiter_next ?_ (args_listiter_next _))))
  show wpAny _ _ (field (.ref it) 0 >>= _) _ _ s
  refine wpAny_bind (wpAny_field ho hd (x := .ref l) rfl ?_)
  show wpAny _ _ (if (Value.ref l == Value.none) = true then _ else _) _ _ s
  rw [if_neg (show ¬ ((Value.ref l == Value.none) = true) from Bool.false_ne_true)]
  show wpAny _ _ (field (.ref it) 1 >>= _) _ _ s
  refine wpAny_bind (wpAny_field ho hd (x := .int i 0) rfl ?_)
  show wpAny _ _ (seqItems? (.ref l) >>= _) _ _ s
  refine wpAny_bind (wpAny_seqItems hl hdl ?_)
  simp only [Int.toNat_natCast, hx]
  refine wpAny_bind (wpAny_rule (wpAny_bind (wpAny_setField ho hd (by simp) ?_)))
  show wpAny _ _ (newExc (.type "StopIteration") [] >>= _) _ _ _
  refine wpAny_bind ?_
  simp only [newExc, newTuple]
  refine wpAny_bind (wpAny_newObj_type ?_ (by size_fits))
  refine wpAny_bind (m := firstArgMember _ _) (wpAny_of_eq (a := Value.none) (by first | rfl | (simp only [firstArgMember]; rfl)) ?_)
  refine wpAny_newObj_type ?_ (by size_fits)
  simp only [raiseNew]
  refine wpAny_bind (wpAny_handled ?_)
  rw [show A.in1.handled = none from hh]
  refine wpAny_bind (wpAny_pure (wpAny_throw ?_))
  refine wpAny_bind (wpAny_isInstance (T := "StopIteration") (b := true) ⟨_, Heap.get?_push_size _ rfl, rfl⟩ isSubtype_stop ?_)
  exact wpAny_pure (hQ _ (((Heap.SameBut.update ..).extBut.push _).push _))
end

def pairs (ws : List Str) (i : Nat) (vals : Array Value) : Prop := ∃ x t1 t2, ws[i]? = some x ∧ vals = #[.str " " t1, .str x t2]

/-- the walk over a line's pairs -/
theorem walk_line {prog : Program} {w : World} {A : Around} (hh : A.handled = none) (I a d : Addr) (hne : a ≠ I) (ws : List Str) (Ts : List Addr) (n : Nat) (hlen : Ts.length = ws.length) (hT : ∀ T ∈ Ts, T ≠ I) :
    WalksU prog w A I (I :: a :: Ts) [I] ws.length (pairs ws)
      (fun j h => h.IsListIter I a j ∧ h.get? a = some (lineObj d (Ts.map Value.ref).toArray n) ∧ ∀ (i : Nat) (T : Addr) (x : Str), Ts[i]? = some T → ws[i]? = some x → ∃ t1 t2, h.get? T = some (pairObj x t1 t2))
      (fun j T h => (Ts[j]? = some T ∧ j < ws.length) ∧ h.IsListIter I a (j + 1) ∧ h.get? a = some (lineObj d (Ts.map Value.ref).toArray n) ∧ ∀ (i : Nat) (T : Addr) (x : Str), Ts[i]? = some T → ws[i]? = some x → ∃ t1 t2, h.get? T = some (pairObj x t1 t2)) where
  sub := fun b hb => by simp at hb; simp [hb]
  frame := fun _ _ _ st hk => ⟨st.1.at fun o e => hk I (by simp) o e, hk a (by simp) _ st.2.1, fun i T x h1 h2 => by
    obtain ⟨t1, t2, e⟩ := st.2.2 i T x h1 h2
    exact ⟨t1, t2, hk T (List.mem_cons_of_mem _ (List.mem_cons_of_mem _ (List.mem_of_getElem? h1))) _ e⟩⟩
  item := fun i s Q E hi st hQ => by
    have hi' : i < Ts.length := by omega
    refine nx_item st.1 st.2.1 rfl (x := .ref Ts[i]) (by simp [hi']) fun h' hit' hs' => ?_
    have eT : Ts[i]? = some Ts[i] := by simp
    have eW : ws[i]? = some ws[i] := by simp
    have tup : ∀ (i : Nat) (T : Addr) (x : Str), Ts[i]? = some T → ws[i]? = some x → ∃ t1 t2, h'.get? T = some (pairObj x t1 t2) := fun i T x h1 h2 => by
      obtain ⟨t1, t2, e⟩ := st.2.2 i T x h1 h2
      exact ⟨t1, t2, (hs'.2 T (hT T (List.mem_of_getElem? h1))).trans e⟩
    obtain ⟨t1, t2, e⟩ := tup i _ _ eT eW
    exact hQ Ts[i] #[.str " " t1, .str ws[i] t2] h' s.toks ⟨ws[i], t1, t2, eW, rfl⟩ ⟨_, e, rfl, _, rfl⟩ ⟨⟨eT, hi⟩, hit', (hs'.2 a hne).trans st.2.1, tup⟩ fun b o hb e => hs'.extBut b o (fun h => hb (by simp [h])) e
  go := fun _ _ _ _ _ s Q _ hm hQ => wpAny_letOwnedTupleGo_listiter hm.2.1 (hQ s.heap hm.2 fun _ _ _ e => e)
  apart := fun j T _ hm hmem => by
    rcases List.mem_cons.mp hmem with e | e
    · exact hT T (List.mem_of_getElem? hm.1.1) e
    · cases e
  done := fun s Q E st hQ => nx_end hh st.1 st.2.1 rfl (by simp [hlen]) fun h' he' => hQ h' s.toks fun b o hb e => he' b o (fun h => hb (by simp [h])) e
  self := fun _ _ _ _ st hQ => wpAny_pyIter_listiter st.1 hQ

theorem LineIs.keep {h h' : Heap} {a d : Addr} {mg : Int} {ws : List Str} {Ts : List Addr} {n : Nat} (x : LineIs h a mg ws d Ts n) (k : ∀ b o, o.cls ≠ .none → h.get? b = some o → h'.get? b = some o) : LineIs h' a mg ws d Ts n :=
  ⟨k _ _ (by nofun) x.at_, let ⟨es, q, t, e, r⟩ := x.dict; ⟨es, q, t, k _ _ (by nofun) e, r⟩, x.len, fun i T y h1 h2 => let ⟨t1, t2, e⟩ := x.pair i T y h1 h2; ⟨t1, t2, k _ _ (by nofun) e⟩⟩

/-- a walk with one item laid ahead that was taken already -/
theorem walk_later {prog : Program} {w : World} {A : Around} {I : Addr} {fp wr : List Addr} {G : Array GenState → Array GenState → Prop} {n : Nat} {P : Nat → Value → Prop} {St : Nat → Shared → Prop} (W : WalksS prog w A I fp wr G n P St) :
    WalksS prog w A I fp wr G (n + 1) (fun j v => match j with | 0 => False | j + 1 => P j v) (fun j s => match j with | 0 => False | j + 1 => St j s) where
  sub := W.sub
  grefl := W.grefl
  gtrans := W.gtrans
  frame := fun i s h' tk st => by cases i with | zero => exact st.elim | succ i => exact W.frame i s h' tk st
  item := fun i s Q E hi st hQ => by
    cases i with
    | zero => exact st.elim
    | succ i => exact W.item i s Q E (by omega) st fun v s' hP hS hm => hQ v s' hP hS hm
  done := fun s Q E st hQ => W.done s Q E st hQ
  self := fun i s Q E st hQ => by cases i with | zero => exact st.elim | succ i => exact W.self i s Q E st hQ


section
variable {prog : Program} {w : World} {A : Around} {E : Value → Shared → Prop} {s : Shared}

def shiftVal (m : Int) (val : Nat → Int) : Nat → Int
  | 0 => m
  | j + 1 => val j
theorem preSum_shift (m : Int) (val : Nat → Int) : ∀ n, preSum (shiftVal m val) (n + 1) = m + preSum val n
  | 0 => by simp [preSum, shiftVal]
  | n + 1 => by
    rw [preSum, preSum_shift m val n]
    show _ + val n = m + (preSum val n + val n)
    omega

theorem args_sum2 (a b : Value) : argsOk "sum" ⟨[a, b], []⟩ := by unfold argsOk; kernel_rfl

/-- sum of a walk of ints, from a start -/
theorem sum_from {x : Value} {m : Int} {tm : Tok} {Q : Value → Shared → Prop} (hm : 0 ≤ m ∧ m < 2 ^ 62)
    (h : wpAny (model prog w) A.in1 (pyIter x) (fun it s₂ => ∃ I fp wr G n P St val, it = .ref I ∧ WalksS prog w A.in1 I fp wr G n P St ∧ St 0 s₂ ∧ (∀ b ∈ fp, b < s₂.heap.objs.size) ∧
      (∀ i v, P i v → ∃ t, v = .int (val i) t) ∧ (∀ j, j < n → InLong (val j) ∧ InLong (m + preSum val (j + 1))) ∧
      ∀ s' t', Moved wr G s₂ s' → Q (.int (m + preSum val n) t') s') E s) :
    wpAny (model prog w) A (call (.builtin "sum") [x, .int m tm]) Q E s := by
  refine call_function_tree F.kind_sum F.plain_sum F.entry_sum (args_sum2 _ _) ?_
  unfold Builtin.«sum»
  simp only [List.length_cons, List.length_nil]
  rw [if_neg (by decide)]
  refine wpAny_bind (wpAny_of_eq (show Builtin.Builtins.bindParams "sum" ["start"] 0 ⟨[.int m tm], []⟩ = pure [some (.int m tm)] from rfl) ?_)
  refine wpAny_bind (wpAny_mono h (fun it s₂ h₂ => ?_) fun _ _ e => e)
  obtain ⟨I, fp, wr, G, n, P, St, val, rfl, W, hst, hfp, hval, hfit, hQ⟩ := h₂
  have hf : (decide (-(2 ^ 63) ≤ m) && decide (m < 2 ^ 63)) = true := by
    simp only [Bool.and_eq_true, decide_eq_true_eq]
    omega
  show wpAny _ _ (if (_ : Bool) = true then _ else _) _ _ _
  split
  case isFalse hneg => exact absurd hf hneg
  refine wpAny_bind (wpAny_rule (wpAny_bind (wpAny_mkInt (wpAny_bind (wpAny_pure ?_)))))
  simp only [List.forIn_cons, List.forIn_nil]
  refine wpAny_bind (wpAny_bind (wpAny_bind (wpAny_isInstance (T := "int") (b := false) (typeIs_int _ _ _) PySem.sub_int_str ?_)))
  simp only [Bool.false_eq_true, if_false]
  refine wpAny_pure (wpAny_bind (wpAny_bind (wpAny_isInstance (T := "int") (b := false) (typeIs_int _ _ _) sub_int_bytes ?_)))
  simp only [Bool.false_eq_true, if_false]
  refine wpAny_pure (wpAny_bind (wpAny_bind (wpAny_isInstance (T := "int") (b := false) (typeIs_int _ _ _) PySem.sub_int_bytearray ?_)))
  simp only [Bool.false_eq_true, if_false]
  refine wpAny_pure (wpAny_pure ?_)
  refine wpAny_bind (wpAny_newObj_type ?_)
  have hSf : s₂.heap.objs.size ∉ fp := fun hm => Nat.lt_irrefl _ (hfp _ hm)
  refine wpAny_pure ⟨plainId_quiet F.plain_sum_loop _, codeAny_sum_loopS (walk_later W) (shiftVal m val) ?_ ?_ s₂.heap.objs.size hSf n 1 _ s₂.toks 0 (by omega) (by omega)
    (W.frame 0 s₂ _ _ hst (by first | exact Nat.le_refl _ | exact Nat.le_succ _ | omega) fun b _ o e => Heap.get?_push_of_some _ e) ?_ fun s' t' hm => ?_⟩
  · intro i v hP
    cases i with
    | zero => exact hP.elim
    | succ i => exact hval i v hP
  · intro j hj
    cases j with
    | zero =>
      rw [preSum_shift]
      show InLong m ∧ InLong (m + 0)
      unfold InLong
      omega
    | succ j =>
      rw [preSum_shift]
      exact hfit j (by omega)
  · have e : preSum (shiftVal m val) 1 = m := by rw [preSum_shift]; show m + 0 = m; omega
    rw [e]
    exact Heap.get?_push_size _ rfl
  · have := hQ s' t' (hm.drop_new (by first | exact Nat.le_refl _ | exact Nat.le_succ _ | omega))
    rw [preSum_shift]
    exact this
end

theorem a_ga (w : World) : findIn (KK w) (.ref 128) "__getattribute__" = some (some (.builtin "list.__getattribute__")) := by kernel_rfl
theorem a_hook (w : World) : findIn (KK w) (.ref 128) "__getattr__" = some none := by kernel_rfl
theorem e_lga : entryFor table "list.__getattribute__" = some Builtin.«object.__getattribute__» := entryFor_alias (id' := "object.__getattribute__") (by kernel_rfl) (by first | rfl | decide +kernel | (unfold String.splitOn; simp +decide [String.splitOnAux])) (by decide +kernel) (by kernel_rfl)
theorem args_lga (a b : Value) : argsOk "list.__getattribute__" ⟨[a, b], []⟩ := by unfold argsOk; kernel_rfl
theorem bind_lga (a : Value) : bindSpecial (.builtin "list.__getattribute__") a = pure (.builtin "list.__getattribute__", [a]) := by kernel_rfl
theorem canon_lga : (Manifest.canonical "list.__getattribute__" != "object.__getattribute__") = false := by decide +kernel

section
variable {prog : Program} {w : World} {A : Around} {E : Value → Shared → Prop} {s : Shared} {M : Model} {a d : Addr} {items : Array Value} {n : Nat}
open Builtin.ObjectAttr in
/-- a name of a line that is plainly there -/
theorem get_line {expr : Bool} {name : Str} {v : Value} {es : List DictEntry} {k : Nat} {Q : Value → Shared → Prop} (G : G0 w s.heap) (e : s.heap.get? a = some (lineObj d items n)) (hd : s.heap.get? d = some (dictOf es k))
    (hf : findObj (KK w) 128 (some (dictOf es k)) name = some (.value v)) (hh : handedIn v = true) (h : Q v { s with toks := s.toks + 1 }) : wpAny (model prog w) A (getAttr (.ref a) name expr) Q E s := by
  obtain ⟨hp, gs, dr, tk, os⟩ := s
  have I : W.InstAt hp a (lineObj d items n) 128 (some (dictOf es k)) := ⟨e, rfl, rfl, hd⟩
  have T := I.type (M := model prog w)
  have L1 := looks_findIn (M := model prog w) G.kin (a_ga w)
  have L2 := looks_findIn (M := model prog w) G.kin (a_hook w)
  have L3 := looks_find (M := model prog w) G.kin I hf
  have L4 := ln_isList (M := model prog w) G e
  unfold getAttr getAttrBy
  refine wpAny_bind (wpAny_mkText (wpAny_holding (wpAny_bind (T.at (wpAny_bind (L1.at ?_))))))
  dsimp only
  rw [show (onTheHeap (.ref 128) && Value.builtin "list.__getattribute__" == Value.builtin "object.__getattribute__") = false from by rw [show (Value.builtin "list.__getattribute__" == Value.builtin "object.__getattribute__") = false from by decide +kernel, Bool.and_false], if_neg (by decide)]
  unfold getAttrByItsOwn
  refine wpAny_bind (m := hookBefore (.ref 128)) ?_
  refine (show Looks (model prog w) hp (hookBefore (.ref 128)) none from looks_hook G.kin (by kernel_rfl)).at ?_
  refine wpAny_bind (wpAny_attempt (wpAny_holding ?_))
  unfold callGetattribute
  rw [show (expr && onTheHeap (Value.builtin "list.__getattribute__")) = false from Bool.and_false _, if_neg (by decide)]
  unfold boundAndCalled
  rw [bind_lga]
  refine wpAny_bind (wpAny_pure ?_)
  show wpAny _ _ (call (.builtin "list.__getattribute__") [.ref a, .str name tk]) _ _ _
  refine wpAny_call ?_
  refine codeAny_call_builtin (by decide +kernel) e_lga ?_
  refine @check_meth _ _ ⟨hp, gs, dr, tk + 1, os⟩ (model prog w) "list.__getattribute__" "list" "__getattribute__" (.ref a) [.str name tk] [] _ (.inl (by decide +kernel)) (by decide +kernel) L4 (args_lga _ _) ?_
  unfold Builtin.«object.__getattribute__»
  refine wpAny_bind (wpAny_of_eq (a := (Value.ref a, [Value.str name tk])) (by rfl) ?_)
  dsimp only
  refine wpAny_bind (wpAny_of_eq (a := name) (by rfl) ?_)
  refine wpAny_bind (T.at (wpAny_bind (L3.at ?_)))
  refine wpAny_pure ?_
  show wpAny _ _ (handedOut v) _ _ _
  rw [handedOut_of hh]; exact wpAny_pure h

/-- a method of a line -/
theorem meth_line {name : Str} {f tf : Value} {es : List DictEntry} {k : Nat} {pl : Sem Bool} {Q : Value × List Value → Shared → Prop} (G : G0 w s.heap) (e : s.heap.get? a = some (lineObj d items n)) (hd : s.heap.get? d = some (dictOf es k))
    (hf : findIn (KK w) (.ref 128) name = some (some f)) (ht : typeIn (KK w) f = some tf) (hk : (tf != .type "function" && tf != .type "method_descriptor" && tf != .type "wrapper_descriptor") = false)
    (hl : getL name es = some none) (h : Q (f, [.ref a]) s) : wpAny (model prog w) A (getMethod (.ref a) name pl) Q E s := by
  obtain ⟨hp, gs, dr, tk, os⟩ := s
  have S1 := ln_special (M := model prog w) G e (a_ga w)
  have S2 := ln_special (M := model prog w) G e (a_hook w)
  have S3 := ln_special (M := model prog w) G e hf
  have T := looks_typeIn (M := model prog w) G.kin ht
  have N : Looks (model prog w) hp (nsGet d name) none := by
    unfold nsGet
    refine (Looks.ld hd).andThen ?_
    exact Looks.of_pure (nsLook_of (show lookIn name (dictOf es k) = some none from hl))
  unfold getMethod
  refine wpAny_bind (S1.at ?_)
  dsimp only
  rw [canon_lga, if_neg (by decide)]
  refine wpAny_bind (S2.at ?_)
  rw [show (Option.isSome (none : Option Value)) = false from rfl, if_neg (by decide)]
  refine wpAny_bind (S3.at ?_)
  dsimp only
  refine wpAny_bind (T.at ?_)
  rw [hk, if_neg (by decide)]
  refine wpAny_bind (wpAny_loadPart (o := lineObj d items n) e ?_)
  show wpAny _ _ (nsGet d name >>= _) _ _ _
  refine wpAny_bind (N.at ?_)
  rw [show (Option.isSome (none : Option Value)) = false from rfl, if_neg (by decide)]
  exact wpAny_bind (wpAny_rule (wpAny_pure h))
end
end Mine
end

section
open PySem PySem.W PyProof.Rows PySem.Calls
set_option maxRecDepth 100000
namespace Mine
section
variable {prog : Program} {w : World} {A : Around} {E : Value → Shared → Prop} {s : Shared}

theorem preSum_signs (ws : List Str) (val : Nat → Int) (hv : ∀ (i : Nat) (x : Str), ws[i]? = some x → val i = 1 + x.length) : preSum val ws.length = signs ws := by
  have : ∀ n, n ≤ ws.length → preSum val n = signs (ws.take n) := by
    intro n
    induction n with
    | zero => intro _; rfl
    | succ n ih =>
      intro hn
      have e : ws[n]? = some ws[n] := by simp
      rw [preSum, ih (by omega), hv n _ e, List.take_add_one, e]
      simp only [signs, List.map_append, List.sum_append, Option.toList_some, List.map_cons, List.map_nil, List.sum_cons, List.sum_nil, Int.add_zero]
  have := this ws.length (Nat.le_refl _)
  rwa [List.take_length] at this

/-- the code of a nested generator expression: made once, found from then on -/
theorem gen_code {M : Model} {env : Env} {c P : Addr} {pos : Pos} {q : Str} {scope : Scope} {Q : Value → Shared → Prop} (hc : env.code = .ref c) (t : Tab s.heap c P)
    (hQ : ∀ code h' tk, (∀ b o, b ≠ P → s.heap.get? b = some o → h'.get? b = some o) → Tab h' c P → Q code { s with heap := h', toks := tk }) :
    wpAny M A (genexprCode env pos q scope) Q E s := by
  obtain ⟨ps, t1, t2⟩ := t
  cases e : codeAmong pos ps.toList with
  | some v => exact wpAny_genexprCode_hit hc t1 e (hQ v s.heap s.toks (fun _ _ _ e => e) ⟨ps, t1, t2⟩)
  | none => exact wpAny_genexprCodeX hc t1 t2 e fun c' h' tk hx _ _ hc' _ ht' _ => hQ _ h' tk (fun b o hb e => hx b o hb e) ⟨_, hc', ht'⟩

theorem i_find (w : World) : findIn (KK w) (.ref 128) "_initial_size" = some none := by kernel_rfl
theorem i_dict (w : World) : hasDictIn (KK w) 128 = true := by kernel_rfl

set_option maxHeartbeats 4000000 in
/-- __len__ of a line -/
theorem len_code {R : Result → Shared → Prop} {a : Addr} {mg : Int} {ws : List Str} {d : Addr} {Ts : List Addr} {n : Nat}
    (hh : A.handled = none) (hr : A.depth + 5 < recursionLimit) (G : Gd w s.heap) (Ln : LineIs s.heap a mg ws d Ts n) (hm : 0 ≤ mg ∧ mg < 2 ^ 61) (hs : ∀ k, signs (ws.take k) < 2 ^ 61) (hx : ∀ x ∈ ws, x.length < 2 ^ 20)
    (h : ∀ s' t, Kp w s s' → R (.ok (.ret (.int (mg + signs ws) t))) s') :
    codeAny (model prog w) A (.call (.ref 95) ⟨[.ref a], []⟩) R s := by
  have f := G.kin 95 _ (by rfl)
  refine codeAny_call_def (by omega) f rfl G.lim (codeRec_of G.kin (by kernel_rfl)) rfl (BindsTo.of_eq (binds := [(Str.ofString "self", .ref a)]) rfl) (by decide) (locs rfl) (fun h₁ hn hk => ?_)
  have G1 : Gd w h₁ := G.keeps hk
  have L1 := Ln.keep (fun b o _ e => hk b o e)
  refine wpAny_execs_cons (wpAny_Return_some (Call_ ?_))
  refine nm_builtin G1.toG0 (g_sum w) b_sum ?_
  refine callWith_builtin1 ?_ ?q1 ?q2
  case q1 => rfl
  case q2 => rfl
  refine spliced_more ?_ ?q3
  case q3 => rfl
  refine wpAny_GeneratorExp_walksQT (cl := []) hh ?c1 ?c2 ?c3 ?c4 ?c5 ?c6 ?c7 ?c8 ?c9 ?_ ?c10
  case c1 => rfl
  case c2 => rfl
  case c3 => decide
  case c4 => rfl
  case c5 => rfl
  case c6 => rfl
  case c7 => decide
  case c8 => rfl
  case c9 => show A.depth + 1 < _; omega
  case c10 => exact (fun _ => rfl)
  refine wpAny_Name (wpAny_loadName_local rfl rfl hn rfl ?_)
  refine iter_line G1.toG0 L1.at_ ?_
  dsimp only
  generalize hI : h₁.objs.size = I
  generalize hH2 : h₁.push { cls := Value.type "list_iterator", data := Data.fields #[Value.ref a, Value.int 0 0] } = h₂
  have k2 : ∀ b o, h₁.get? b = some o → h₂.get? b = some o := fun b o e => hH2 ▸ Heap.get?_push_of_some _ e
  have z2 : h₂.objs.size = I + 1 := by rw [← hH2, Heap.size_push, hI]
  have hit2 : h₂.IsListIter I a 0 := ⟨_, by rw [← hH2, ← hI]; exact Heap.get?_push_size _ rfl, rfl, rfl⟩
  have G2 : Gd w h₂ := G1.keeps k2
  have L2 := L1.keep (fun b o _ e => k2 b o e)
  refine ⟨G2.lim, ?_⟩
  refine gen_code rfl G2.t1 fun code h₃ tk3 k3 t3 => ?_
  dsimp only at k3
  have G3 : Gd w h₃ := ⟨G2.toG0.but fun b o h1 _ e => k3 b o h1 e, t3, G2.t2.two (fun o => k3 _ o (by decide)) fun o => k3 _ o (by decide)⟩
  have L3 := L2.keep (fun b o hc e => k3 b o (G2.t1.ne e hc) e)
  refine bi_for G3.toG0 ?_
  have hT : ∀ T ∈ Ts, T ≠ I := by
    intro T hT
    obtain ⟨i, hi, rfl⟩ := List.getElem_of_mem hT
    obtain ⟨t1, t2, e⟩ := L1.pair i Ts[i] (ws[i]'(by have := L1.len; omega)) (by simp) (by simp)
    exact Nat.ne_of_lt (hI ▸ Heap.lt_size e)
  have hI3 : h₃.get? I = some { cls := Value.type "list_iterator", data := Data.fields #[Value.ref a, Value.int 0 0] } := by
    refine k3 I _ ?_ (by rw [← hH2, ← hI]; exact Heap.get?_push_size _ rfl)
    obtain ⟨ps, x1, x2⟩ := G1.t1
    exact Nat.ne_of_gt (hI ▸ Heap.lt_size x2.2)
  refine ⟨I, I :: a :: Ts, [I], ws.length, pairs ws, _, _, fun _ => true, fun i v => ∃ x t, ws[i]? = some x ∧ v = .int (1 + x.length) t, rfl, fun A' hA' => walk_line hA' I a d (Nat.ne_of_lt (hI ▸ Heap.lt_size L1.at_)) ws Ts n L1.len hT, ?_, ?_, ?_, G3.lim, ?_, ?_, ?_⟩
  · rintro i vals ⟨x, t1, t2, _, rfl⟩
    exact ⟨_, _, rfl⟩
  · exact ⟨⟨_, hI3, rfl, rfl⟩, L3.at_, L3.pair⟩
  · intro b hb
    rcases List.mem_cons.mp hb with rfl | hb
    · exact Heap.lt_size hI3
    rcases List.mem_cons.mp hb with rfl | hb
    · exact Heap.lt_size L3.at_
    · obtain ⟨i, hi, rfl⟩ := List.getElem_of_mem hb
      obtain ⟨t1, t2, e⟩ := L3.pair i Ts[i] (ws[i]'(by have := L1.len; omega)) (by simp) (by simp)
      exact Heap.lt_size e
  · intro hm
    have e := List.mem_singleton.mp hm
    obtain ⟨mc, hns, _⟩ := G1.lim
    exact absurd (hI ▸ hns.lt) (e ▸ Nat.lt_irrefl _)
  · intro href hk4
    refine ⟨fun A' E' i va vb s₂ m₂ hA' hP hn2 ha hb hk2 => wpAny_pure ⟨rfl, s₂.heap, s₂.toks, rfl, fun _ _ e => e⟩, fun A' E' i va vb s₂ m₂ hA' hP _ hn2 ha hb hk2 => ?_⟩
    obtain ⟨x, t1, t2, hwx, e⟩ := hP
    cases e
    have Ge : G0 w s₂.heap := G1.toG0.but fun b o h1 _ e => hk2 b (List.mem_range.mpr (Heap.lt_size (k3 b o h1 (k2 b o e)))) (fun hm => by
      have e1 := List.mem_singleton.mp hm
      exact absurd (hI ▸ Heap.lt_size e) (e1 ▸ Nat.lt_irrefl _)) o (hk4 b o (k3 b o h1 (k2 b o e)))
    obtain ⟨hp2, gs2, dr2, tk2, os2⟩ := s₂
    refine wpAny_BinOp ?_
    refine Call_ ?_ ?q1
    case q1 => rfl
    refine nm_builtin Ge (g_len w) b_len ?_
    refine callWith_builtin1 ?_ ?q1 ?q2
    case q1 => rfl
    case q2 => rfl
    refine spliced_more ?_ ?q3
    case q3 => rfl
    refine wpAny_Name (wpAny_loadName_local rfl rfl hn2 ha ?_)
    refine spliced_nil ?_
    refine len_str (by decide) ?_
    refine Call_ ?_ ?q1
    case q1 => rfl
    refine nm_builtin Ge (g_len w) b_len ?_
    refine callWith_builtin1 ?_ ?q1 ?q2
    case q1 => rfl
    case q2 => rfl
    refine spliced_more ?_ ?q3
    case q3 => rfl
    refine wpAny_Name (wpAny_loadName_local rfl rfl hn2 hb ?_)
    refine spliced_nil ?_
    have hxl := hx x (List.mem_of_getElem? hwx)
    refine len_str (by omega) ?_
    refine PyProof.Rows.add_int ?_
    exact ⟨⟨x, _, hwx, rfl⟩, hp2, _, rfl, fun _ _ e => e⟩
  · intro g h₅ tk gs hb hg1 hg2 hk5 W St5
    have k35 : ∀ b o, h₁.get? b = some o → b ≠ 90 → h₅.get? b = some o := fun b o e hb => hk5 b o (k3 b o hb (k2 b o e))
    have G5 : Gd w h₅ := G3.keeps hk5
    have L5 := L3.keep (fun b o _ e => hk5 b o e)
    have hn5 : h₅.Ns s.heap.objs.size fun x => List.lookup x [(Str.ofString "self", Value.ref a)].reverse := by
      obtain ⟨o, es, ep, ho, r⟩ := hn
      refine ⟨o, es, ep, k35 _ _ ho ?_, r⟩
      obtain ⟨ps, x1, x2⟩ := G.t1
      exact Nat.ne_of_gt (Heap.lt_size x2.2)
    refine spliced_more ?_ ?q3
    case q3 => rfl
    refine Attribute_Name_ ?_ ?q1
    case q1 => rfl
    refine wpAny_Name (wpAny_loadName_local rfl rfl hn5 rfl ?_)
    obtain ⟨es, q, t, hd, hes, _⟩ := L5.dict
    refine get_line G5.toG0 L5.at_ hd (findObj_own (i_dict w) (i_find w) (by kernel_rfl) hes) rfl ?_
    refine spliced_nil ?_
    have hps := preSum_signs
    refine sum_from ⟨hm.1, by omega⟩ ?_
    refine W.in4_1.self 0 _ _ _ (W.frame 0 _ _ _ St5 (Nat.le_succ _) fun _ _ _ e => e) ?_
    have pt : passing (fun _ => true) ws.length 0 = List.range ws.length := by
      unfold passing
      rw [List.drop_zero]
      exact List.filter_eq_self.mpr fun _ _ => rfl
    let val : Nat → Int := fun j => match ws[j]? with | some x => 1 + x.length | none => 0
    have hval : ∀ (i : Nat) (x : Str), ws[i]? = some x → val i = 1 + x.length := fun i x e => by show (match ws[i]? with | some x => (1 + x.length : Int) | none => 0) = _; rw [e]
    have hpre : ∀ k, k ≤ ws.length → preSum val k = signs (ws.take k) := by
      intro k hk
      have := preSum_signs (ws.take k) val (fun i x e => hval i x (by
        rw [List.getElem?_take] at e
        split at e
        · exact e
        · cases e))
      rw [List.length_take, Nat.min_eq_left hk] at this
      exact this
    have hpos : ∀ k, 0 ≤ signs (ws.take k) := by
      intro k
      unfold signs
      generalize ws.take k = l
      induction l with
      | nil => exact Int.le_refl _
      | cons x l ih => rw [List.map_cons, List.sum_cons]; omega
    refine ⟨g, _, _, _, _, _, _, val, rfl, W.in4_1, W.frame 0 _ _ _ St5 (Nat.le_succ _) fun _ _ _ e => e, ?_, ?_, ?_, ?_⟩
    · intro b hb
      rcases List.mem_cons.mp hb with rfl | hb
      · rw [hg2]; exact Nat.lt_succ_self _
      rcases List.mem_cons.mp hb with rfl | hb
      · rw [hg2]; exact Nat.lt_succ_of_lt hg1
      · rw [hg2]; exact Nat.lt_succ_of_lt (Nat.lt_trans (List.mem_range.mp hb) hg1)
    · rintro i v ⟨j, hj, x, t, e, rfl⟩
      rw [pt] at hj
      obtain ⟨hlt, rfl⟩ := List.getElem?_eq_some_iff.mp hj
      rw [List.getElem_range] at e
      exact ⟨t, by rw [hval i x e]⟩
    · intro j hj
      rw [pt, List.length_range] at hj
      have e : ws[j]? = some ws[j] := by simp
      have hxl := hx ws[j] (List.getElem_mem hj)
      rw [hval j _ e, hpre (j + 1) hj]
      have h1 := hs (j + 1)
      have h2 := hpos (j + 1)
      unfold InLong
      omega
    · intro s' t' hmv
      have hfin : preSum val ws.length = signs ws := by rw [hpre _ (Nat.le_refl _), List.take_length]
      rw [pt, List.length_range, hfin]
      have k5s : ∀ b o, b ≠ 90 → s.heap.get? b = some o → s'.heap.get? b = some o := by
        intro b o h9 e
        have e5 := k35 b o (hk b o e) h9
        refine hmv.heap b o ?_ e5
        intro hm
        have hl := Heap.lt_size (hk b o e)
        rcases List.mem_cons.mp hm with rfl | hm
        · have := Heap.lt_size (k2 _ _ (hk _ _ e))
          have hl3 := Heap.lt_size (k3 _ _ h9 (k2 _ _ (hk _ _ e)))
          exact absurd hl3 (Nat.lt_irrefl _)
        · have e1 := List.mem_singleton.mp hm
          exact absurd (hI ▸ hl) (e1 ▸ Nat.lt_irrefl _)
      have k5t : ∀ b o, b < I → h₅.get? b = some o → s'.heap.get? b = some o := by
        intro b o hb e
        refine hmv.heap b o ?_ e
        intro hm
        rcases List.mem_cons.mp hm with rfl | hm
        · have := Heap.lt_size hI3
          exact absurd (Nat.lt_trans hb this) (Nat.lt_irrefl _)
        · have e1 := List.mem_singleton.mp hm
          exact absurd hb (e1 ▸ Nat.lt_irrefl _)
      refine h s' t' ⟨fun b o h1 _ e => k5s b o h1 e, fun _ => ?_, fun hg => ?_, hmv.os⟩
      · have lt : ∀ b o, h₁.get? b = some o → b < I := fun b o e => hI ▸ Heap.lt_size e
        refine ⟨G.toG0.but fun b o h1 _ e => k5s b o h1 e, ?_, ?_⟩
        · exact G5.t1.two (fun o => k5t _ o (hI ▸ G1.t1.lt.1)) fun o => k5t _ o (hI ▸ G1.t1.lt.2)
        · exact G5.t2.two (fun o => k5t _ o (hI ▸ G1.t2.lt.1)) fun o => k5t _ o (hI ▸ G1.t2.lt.2)
      · exact AllBare.moved (AllBare.push hg hb) hmv.gens
end
end Mine
end

section
open PySem PySem.W PyProof.Rows PySem.Calls
set_option maxRecDepth 100000
namespace Mine

/-- a line's numbers are small -/
structure Small (mg : Int) (ws : List Str) : Prop where
  lo : 0 ≤ mg
  hi : mg < 2 ^ 61
  sum : ∀ k, signs (ws.take k) < 2 ^ 61
  len : ∀ x ∈ ws, x.length < 2 ^ 20

theorem signs_nonneg (ws : List Str) : 0 ≤ signs ws := by
  unfold signs
  induction ws with
  | nil => exact Int.le_refl _
  | cons x l ih => rw [List.map_cons, List.sum_cons]; omega

def LineAt (h : Heap) (a : Addr) (mg : Int) (ws : List Str) : Prop := ∃ d Ts n, LineIs h a mg ws d Ts n
theorem LineAt.keep {h h' : Heap} {a : Addr} {mg : Int} {ws : List Str} (x : LineAt h a mg ws) (k : ∀ b o, o.cls ≠ .none → h.get? b = some o → h'.get? b = some o) : LineAt h' a mg ws :=
  let ⟨d, Ts, n, y⟩ := x; ⟨d, Ts, n, y.keep k⟩

section
variable {prog : Program} {w : World} {A : Around} {E : Value → Shared → Prop} {s : Shared}

theorem len_line {a : Addr} {mg : Int} {ws : List Str} {Q : Value → Shared → Prop}
    (hh : A.handled = none) (hr : A.depth + 5 < recursionLimit) (G : Gd w s.heap) (Ln : LineAt s.heap a mg ws) (S : Small mg ws)
    (h : ∀ s' t, Kp w s s' → Q (.int (mg + signs ws) t) s') : wpAny (model prog w) A (call (.builtin "len") [.ref a]) Q E s := by
  obtain ⟨d, Ts, n, Ln⟩ := Ln
  obtain ⟨es, k, t, hd, _⟩ := Ln.dict
  have I : W.InstAt s.heap a (lineObj d (Ts.map Value.ref).toArray n) 128 (some (dictOf es k)) := ⟨Ln.at_, rfl, rfl, hd⟩
  have hpos := signs_nonneg ws
  have hup := S.sum ws.length
  rw [List.take_length] at hup
  have hlo := S.lo
  have hhi := S.hi
  refine Calls.call_function_entry kind_len plain_len entry_len (args_len1 _) ?_
  unfold Builtin.«len»
  refine wpAny_bind (m := oneArg "len" _) (wpAny_pure ?_)
  refine wpAny_bind (m := callSpecial? (.ref a) (Str.ofString "__len__")) (special_fn (f := 95) G.kin I (by kernel_rfl) (by rfl) ?_)
  refine wpAny_call (len_code hh hr G Ln ⟨hlo, hhi⟩ S.sum S.len fun s' t' k => ?_)
  refine wpAny_bind (wpAny_holding (wpAny_pure ?_))
  refine wpAny_bind (wpAny_letGo ?_)
  show wpAny _ _ (if mg + signs ws < 0 then _ else _) _ _ _
  rw [if_neg (by omega)]
  show wpAny _ _ (if mg + signs ws ≥ 2 ^ 63 then _ else _) _ _ _
  rw [if_neg (by omega)]
  refine wpAny_bind (wpAny_mkInt (wpAny_pure ⟨_, rfl, h _ _ (k.trans ?_)⟩))
  exact Kp.of fun _ _ e => e

set_option maxHeartbeats 4000000 in
theorem taken_code {R : Result → Shared → Prop} {a : Addr} {mg : Int} {ws : List Str}
    (hh : A.handled = none) (hr : A.depth + 6 < recursionLimit) (G : Gd w s.heap) (Ln : LineAt s.heap a mg ws) (S : Small mg ws)
    (h : ∀ s' t, Kp w s s' → R (.ok (.ret (.int (mg + signs ws) t))) s') : codeAny (model prog w) A (.call (.ref 139) ⟨[.ref a], []⟩) R s := by
  have f := G.kin 139 _ (by rfl)
  refine codeAny_call_def (by omega) f rfl G.lim (codeRec_of G.kin (by kernel_rfl)) rfl (BindsTo.of_eq (binds := [(Str.ofString "line", .ref a)]) rfl) (by decide) (locs rfl) (fun h₁ hn hk => ?_)
  have G1 : Gd w h₁ := G.keeps hk
  have L1 := Ln.keep (fun b o _ e => hk b o e)
  refine wpAny_execs_cons ?_
  refine wpAny_Return_some ?_
  refine Call_ ?_ ?q1
  case q1 => rfl
  refine nm_builtin G1.toG0 (g_len w) b_len ?_
  refine callWith_builtin1 ?_ ?q1 ?q2
  case q1 => rfl
  case q2 => rfl
  refine spliced_more ?_ ?q3
  case q3 => rfl
  refine wpAny_Name (wpAny_loadName_local rfl rfl hn rfl ?_)
  refine spliced_nil ?_
  refine len_line hh (by show A.depth + 1 + 5 < _; omega) G1 L1 S fun s' t k => ?_
  exact h s' t ((Kp.of hk).trans k)
end
end Mine
end

section
open PySem PySem.W PyProof.Rows PySem.Calls
set_option maxRecDepth 100000
namespace Mine

theorem Kp.write {w : World} {s s' : Shared} (k : Kp w s s') {L : Addr} (hL : s.heap.objs.size ≤ L) {h' : Heap} {tk : Nat} (hx : ∀ b o, b ≠ L → s'.heap.get? b = some o → h'.get? b = some o) : Kp w s { s' with heap := h', toks := tk } := by
  have ne : ∀ {b o}, s.heap.get? b = some o → b ≠ L := fun e => Nat.ne_of_lt (Nat.lt_of_lt_of_le (Heap.lt_size e) hL)
  have lt : ∀ {b : Addr}, b < s.heap.objs.size → b ≠ L := fun e => Nat.ne_of_lt (Nat.lt_of_lt_of_le e hL)
  refine ⟨fun b o h1 h2 e => hx b o (ne e) (k.keep b o h1 h2 e), fun g => ?_, k.gens, k.os⟩
  have g' := k.gd g
  exact ⟨g.toG0.but fun b o h1 h2 e => hx b o (ne e) (k.keep b o h1 h2 e), g'.t1.two (fun o => hx _ o (lt g.t1.lt.1)) (fun o => hx _ o (lt g.t1.lt.2)), g'.t2.two (fun o => hx _ o (lt g.t2.lt.1)) (fun o => hx _ o (lt g.t2.lt.2))⟩
theorem Kp.toks {w : World} {s s' : Shared} (k : Kp w s s') {tk : Nat} : Kp w s { s' with toks := tk } := k.trans (Kp.of (h' := s'.heap) fun _ _ e => e)

/-- a row of lines -/
structure RowIs (h : Heap) (r : Addr) (mg : Int) (rs : List Addr) (W : Nat → List Str) : Prop where
  at_ : ∃ n, h.get? r = some (listOf (rs.map Value.ref).toArray n)
  line : ∀ (i : Nat) (a : Addr), rs[i]? = some a → LineAt h a mg (W i)
theorem RowIs.keep {h h' : Heap} {r : Addr} {mg : Int} {rs : List Addr} {W : Nat → List Str} (x : RowIs h r mg rs W) (k : ∀ b o, o.cls ≠ .none → h.get? b = some o → h'.get? b = some o) : RowIs h' r mg rs W :=
  ⟨let ⟨n, e⟩ := x.at_; ⟨n, k _ _ (by nofun) e⟩, fun i a e => (x.line i a e).keep k⟩

/-- the locals of a bisection under way -/
def BLoc (h : Heap) (L row : Addr) (v lo hi : Int) : Prop :=
  ∃ m, h.Ns L m ∧ m "a" = some (.ref row) ∧ (∃ t, m "x" = some (.int v t)) ∧ (∃ t, m "lo" = some (.int lo t)) ∧ (∃ t, m "hi" = some (.int hi t)) ∧ m "key" = some (.ref 139)

section
variable {prog : Program} {w : World} {A : Around} {E : Value → Shared → Prop} {s : Shared}

theorem keep139 (w : World) : keepIn (KK w) (.ref 139) = true := by kernel_rfl

set_option maxHeartbeats 8000000 in
theorem bisR_code {R : Result → Shared → Prop} {row : Addr} {v : Int} {tv : Tok} {mg : Int} {rs : List Addr} {W : Nat → List Str} {f : Nat → Int} {args : Args} {t0 : Tok}
    (hb : ∀ o fd, (KK w).lookup 39 = some o → o.data = .func fd → BindsTo s fd args [(Str.ofString "a", .ref row), (Str.ofString "x", .int v tv), (Str.ofString "lo", .int 0 t0), (Str.ofString "hi", .none), (Str.ofString "key", .ref 139)])
    (hh : A.handled = none) (hr : A.depth + 8 < recursionLimit) (G : Gd w s.heap) (Rw : RowIs s.heap row mg rs W) (S : ∀ i, i < rs.length → Small mg (W i)) (hlen : rs.length < 2 ^ 20)
    (hf : ∀ i, f i = mg + signs (W i)) (mono : ∀ i j, i ≤ j → j < rs.length → f i ≤ f j)
    (h : ∀ s' t (k : Nat), Kp w s s' → k ≤ rs.length → (∀ j, j < k → f j ≤ v) → (∀ j, k ≤ j → j < rs.length → v < f j) → R (.ok (.ret (.int k t))) s') :
    codeAny (model prog w) A (.call (.ref 39) args) R s := by
  have fo := G.kin 39 _ (by rfl)
  have hb' := hb _ _ (by rfl) rfl
  refine codeAny_call_def (binds := [(Str.ofString "a", .ref row), (Str.ofString "x", .int v tv), (Str.ofString "lo", .int 0 t0), (Str.ofString "hi", .none), (Str.ofString "key", .ref 139)])
    (by omega) fo rfl G.lim (codeRec_of G.kin (by kernel_rfl)) rfl hb' (by decide) (locs rfl) (fun h₁ hn hk => ?_)
  have G1 : Gd w h₁ := G.keeps hk
  have R1 := Rw.keep (fun b o _ e => hk b o e)
  generalize hL : s.heap.objs.size = L at hn ⊢
  have hs : s.heap.objs.size ≤ L := Nat.le_of_eq hL
  have K1 : Kp w s { s with heap := h₁ } := Kp.of (tk := s.toks) hk
  clear fo hb' hb
  -- if lo < 0
  refine wpAny_execs_cons ?_
  refine wpAny_If ?_
  refine wpAny_isTrue_Compare1 ?_ ?q1
  case q1 => rfl
  refine wpAny_Name (wpAny_loadName_local rfl rfl hn rfl ?_)
  refine wpAny_Constant_int ?_
  refine PyProof.Rows.lt_int ?_
  refine wpAny_truthy_bool ?_
  rw [if_neg (by decide)]
  refine wpAny_execs_nil ?_
  -- if hi is None
  refine wpAny_execs_cons ?_
  refine wpAny_If ?_
  refine wpAny_isTrue_Compare1 ?_ ?q1
  case q1 => rfl
  refine wpAny_Name (wpAny_loadName_local rfl rfl hn rfl ?_)
  refine wpAny_Constant_none ?_
  refine wpAny_is_self rfl ?_
  refine wpAny_truthy_bool ?_
  rw [if_pos rfl]
  refine wpAny_execs_cons ?_
  refine wpAny_Assign_Name ?_ ?q1
  case q1 => rfl
  refine Call_ ?_ ?q1
  case q1 => rfl
  refine nm_builtin G1.toG0 (g_len w) b_len ?_
  refine callWith_builtin1 ?_ ?q1 ?q2
  case q1 => rfl
  case q2 => rfl
  refine spliced_more ?_ ?q3
  case q3 => rfl
  refine wpAny_Name (wpAny_loadName_local rfl rfl hn rfl ?_)
  refine spliced_nil ?_
  obtain ⟨nr, hrow⟩ := R1.at_
  refine PySem.Calls.call_len_list (items := (rs.map Value.ref).toArray) ⟨_, hrow, rfl, _, rfl⟩ (by simp; omega) ?_
  refine wpAny_storeName_local rfl hn (fun h₂ hn₂ hs₂ => ?_) ?q1
  case q1 => rfl
  refine wpAny_execs_nil ?_
  dsimp only at hs₂
  have K2 : Kp w s { s with heap := h₂ } := (K1.write (tk := s.toks) hs hs₂.extBut)
  -- if key is None
  refine wpAny_execs_cons ?_
  refine wpAny_If ?_
  refine wpAny_isTrue_Compare1 ?_ ?q1
  case q1 => rfl
  refine wpAny_Name (wpAny_loadName_local rfl rfl hn₂ rfl ?_)
  refine wpAny_Constant_none ?_
  refine wpAny_is_other rfl (by nofun) ?_
  refine wpAny_truthy_bool ?_
  rw [if_neg (by decide)]
  refine wpAny_execs_cons ?_
  refine wpAny_While ?_
  have B2 : BLoc h₂ L row v 0 rs.length := ⟨_, hn₂, rfl, ⟨_, rfl⟩, ⟨_, rfl⟩, ⟨_, by
    show some (Value.int ((rs.map Value.ref).toArray.size : Int) _) = _
    rw [List.size_toArray, List.length_map]⟩, rfl⟩
  refine codeAny_whileLoop (fun k s' => ∃ lo hi : Nat, Kp w s s' ∧ BLoc s'.heap L row v lo hi ∧ lo ≤ hi ∧ hi ≤ rs.length ∧ (∀ j, j < lo → f j ≤ v) ∧ (∀ j, hi ≤ j → j < rs.length → v < f j) ∧ k = hi - lo) ?_ rs.length
    ⟨0, rs.length, K2.toks, B2, Nat.zero_le _, Nat.le_refl _, fun j hj => absurd hj (Nat.not_lt_zero _), fun j h1 h2 => absurd h2 (Nat.not_lt.mpr h1), rfl⟩
  clear B2 K2 hn₂ hs₂ hrow hn
  rintro k s' ⟨lo, hi, K3, ⟨m, hm, m1, ⟨tx, m2⟩, ⟨tl, m3⟩, ⟨th, m4⟩, m5⟩, hlh, hhi, hlow, hhigh, rfl⟩
  have G3 := K3.gd G
  have R3 := Rw.keep (fun b o hc e => K3.cls G hc e)
  refine wpAny_isTrue_Compare1 ?_ ?q1
  case q1 => rfl
  refine wpAny_Name (wpAny_loadName_local rfl rfl hm m3 ?_)
  refine wpAny_Name (wpAny_loadName_local rfl rfl hm m4 ?_)
  refine PyProof.Rows.lt_int ?_
  refine wpAny_truthy_bool ?_
  by_cases hlt : (lo : Int) < hi
  case neg =>
    rw [if_neg (by simpa using hlt)]
    refine wpAny_execs_nil ?_
    refine wpAny_execs_nil ?_
    refine wpAny_execs_cons ?_
    refine wpAny_Return_some ?_
    refine wpAny_Name (wpAny_loadName_local rfl rfl hm m3 ?_)
    have e : lo = hi := by omega
    exact h s' tl lo K3 (by omega) hlow (by rw [e]; exact hhigh)
  rw [if_pos (by simpa using hlt)]
  -- mid = (lo + hi) // 2
  refine wpAny_execs_cons ?_
  refine wpAny_Assign_Name ?_ ?q1
  case q1 => rfl
  refine wpAny_BinOp ?_
  refine wpAny_BinOp ?_
  refine wpAny_Name (wpAny_loadName_local rfl rfl hm m3 ?_)
  refine wpAny_Name (wpAny_loadName_local rfl rfl hm m4 ?_)
  refine PyProof.Rows.add_int ?_
  refine wpAny_Constant_int ?_
  refine floordiv_int (by decide) ?_ (Or.inl (PyProof.noPylong_small (by omega)))
  refine wpAny_storeName_local rfl hm (fun h₄ hn₄ hs₄ => ?_) ?q1
  case q1 => rfl
  dsimp only at hs₄
  have K4 : Kp w s { s' with heap := h₄ } := K3.write (tk := s'.toks) hs hs₄.extBut
  have G4 : Gd w h₄ := K4.gd G
  have R4 : RowIs h₄ row mg rs W := Rw.keep (fun b o hc e => K4.cls G hc e)
  have hmid : Int.fdiv ((lo : Int) + hi) 2 = ((lo + hi) / 2 : Nat) := by
    rw [Int.fdiv_eq_ediv_of_nonneg _ (by decide)]
    omega
  rw [hmid] at hn₄
  generalize hq : (lo + hi) / 2 = q at hn₄ hmid
  have hq1 : lo ≤ q := by omega
  have hq2 : q < hi := by omega
  -- if x < key(a[mid])
  refine wpAny_execs_cons ?_
  refine wpAny_If ?_
  refine wpAny_isTrue_Compare1 ?_ ?q1
  case q1 => rfl
  refine wpAny_Name (wpAny_loadName_local rfl rfl hn₄ ((if_neg (by decide)).trans m2) ?_)
  refine Call_ ?_ ?q1
  case q1 => rfl
  refine wpAny_Name (wpAny_loadName_local rfl rfl hn₄ ((if_neg (by decide)).trans m5) ?_)
  refine callWith_K G4.kin (keep139 w) ?_ ?q1 ?q2
  case q1 => rfl
  case q2 => rfl
  refine spliced_more ?_ ?q3
  case q3 => rfl
  refine wpAny_Subscript_Name (T := "list") slot_list_getitem.lookup ?_ ?q4
  case q4 => intro _ _; rfl
  refine wpAny_Name (wpAny_loadName_local rfl rfl hn₄ ((if_neg (by decide)).trans m1) ?_)
  refine wpAny_Name (wpAny_loadName_local rfl rfl hn₄ (if_pos rfl) ?_)
  obtain ⟨nr, hrow⟩ := R4.at_
  refine ⟨⟨_, hrow, rfl⟩, ?_⟩
  have hqr : q < rs.length := by omega
  have hat : rs[q]? = some rs[q] := by simp
  refine wpAny_getItem_list (items := (rs.map Value.ref).toArray) (x := .ref rs[q]) ⟨_, hrow, rfl, _, rfl⟩ (by omega) (by omega) (by simp) ?_
  refine spliced_nil ?_
  refine ⟨G4.kin, ?_⟩
  refine wpAny_call ?_
  refine taken_code hh (by show A.depth + 1 + 6 < _; omega) G4 (R4.line q _ hat) (S q hqr) fun s₅ t₅ k₅ => ?_
  rw [← hf q]
  refine PyProof.Rows.lt_int ?_
  refine wpAny_truthy_bool ?_
  have K5 : Kp w s s₅ := by
    refine Kp.trans (s' := { s' with heap := h₄ }) K4 ?_
    exact ⟨k₅.keep, k₅.gd, k₅.gens, k₅.os⟩
  have B5 : ∃ m, s₅.heap.Ns L m ∧ m "a" = some (.ref row) ∧ (∃ t, m "x" = some (.int v t)) ∧ (∃ t, m "lo" = some (.int lo t)) ∧ (∃ t, m "hi" = some (.int hi t)) ∧ m "key" = some (.ref 139) ∧ ∃ t, m "mid" = some (.int q t) := by
    obtain ⟨o, es, ep, ho, r⟩ := hn₄
    refine ⟨_, ⟨o, es, ep, k₅.keep _ _ ?_ ?_ ho, r⟩, (if_neg (by decide)).trans m1, ⟨_, (if_neg (by decide)).trans m2⟩, ⟨_, (if_neg (by decide)).trans m3⟩, ⟨_, (if_neg (by decide)).trans m4⟩, (if_neg (by decide)).trans m5, ⟨_, if_pos rfl⟩⟩
    · exact Nat.ne_of_gt (Nat.lt_of_lt_of_le G.t1.lt.2 hs)
    · exact Nat.ne_of_gt (Nat.lt_of_lt_of_le G.t2.lt.2 hs)
  clear hn₄ hs₄ hrow
  obtain ⟨m', hm', m1', ⟨tx', m2'⟩, ⟨tl', m3'⟩, ⟨th', m4'⟩, m5', ⟨tm', m6'⟩⟩ := B5
  by_cases hv : v < f q
  · rw [if_pos (by simpa using hv)]
    refine wpAny_execs_cons ?_
    refine wpAny_Assign_Name ?_ ?q1
    case q1 => rfl
    refine wpAny_Name (wpAny_loadName_local rfl rfl hm' m6' ?_)
    refine wpAny_storeName_local rfl hm' (fun h₆ hn₆ hs₆ => ?_) ?q1
    case q1 => rfl
    refine wpAny_execs_nil ?_
    refine wpAny_execs_nil ?_
    refine ⟨q - lo, by omega, lo, q, K5.write (tk := _) hs hs₆.extBut, ⟨_, hn₆, (if_neg (by decide)).trans m1', ⟨_, (if_neg (by decide)).trans m2'⟩, ⟨_, (if_neg (by decide)).trans m3'⟩, ⟨_, if_pos rfl⟩, (if_neg (by decide)).trans m5'⟩, hq1, by omega, hlow, fun j h1 h2 => Int.lt_of_lt_of_le hv (mono q j h1 h2), rfl⟩
  · rw [if_neg (by simpa using hv)]
    refine wpAny_execs_cons ?_
    refine wpAny_Assign_Name ?_ ?q1
    case q1 => rfl
    refine wpAny_BinOp ?_
    refine wpAny_Name (wpAny_loadName_local rfl rfl hm' m6' ?_)
    refine wpAny_Constant_int ?_
    refine PyProof.Rows.add_int ?_
    refine wpAny_storeName_local rfl hm' (fun h₆ hn₆ hs₆ => ?_) ?q1
    case q1 => rfl
    refine wpAny_execs_nil ?_
    refine wpAny_execs_nil ?_
    refine ⟨hi - (q + 1), by omega, q + 1, hi, K5.write (tk := _) hs hs₆.extBut, ⟨_, hn₆, (if_neg (by decide)).trans m1', ⟨_, (if_neg (by decide)).trans m2'⟩, ⟨_, if_pos (by rfl)⟩, ⟨_, (if_neg (by decide)).trans m4'⟩, (if_neg (by decide)).trans m5'⟩, by omega, by omega, fun j hj => Int.le_trans (mono j q (by omega) hqr) (by omega), hhigh, rfl⟩

set_option maxHeartbeats 8000000 in
theorem bisL_code {R : Result → Shared → Prop} {row : Addr} {v : Int} {tv : Tok} {mg : Int} {rs : List Addr} {W : Nat → List Str} {f : Nat → Int} {args : Args} {t0 : Tok}
    (hb : ∀ o fd, (KK w).lookup 48 = some o → o.data = .func fd → BindsTo s fd args [(Str.ofString "a", .ref row), (Str.ofString "x", .int v tv), (Str.ofString "lo", .int 0 t0), (Str.ofString "hi", .none), (Str.ofString "key", .ref 139)])
    (hh : A.handled = none) (hr : A.depth + 8 < recursionLimit) (G : Gd w s.heap) (Rw : RowIs s.heap row mg rs W) (S : ∀ i, i < rs.length → Small mg (W i)) (hlen : rs.length < 2 ^ 20)
    (hf : ∀ i, f i = mg + signs (W i)) (mono : ∀ i j, i ≤ j → j < rs.length → f i ≤ f j)
    (h : ∀ s' t (k : Nat), Kp w s s' → k ≤ rs.length → (∀ j, j < k → f j < v) → (∀ j, k ≤ j → j < rs.length → v ≤ f j) → R (.ok (.ret (.int k t))) s') :
    codeAny (model prog w) A (.call (.ref 48) args) R s := by
  have fo := G.kin 48 _ (by rfl)
  have hb' := hb _ _ (by rfl) rfl
  refine codeAny_call_def (binds := [(Str.ofString "a", .ref row), (Str.ofString "x", .int v tv), (Str.ofString "lo", .int 0 t0), (Str.ofString "hi", .none), (Str.ofString "key", .ref 139)])
    (by omega) fo rfl G.lim (codeRec_of G.kin (by kernel_rfl)) rfl hb' (by decide) (locs rfl) (fun h₁ hn hk => ?_)
  have G1 : Gd w h₁ := G.keeps hk
  have R1 := Rw.keep (fun b o _ e => hk b o e)
  generalize hL : s.heap.objs.size = L at hn ⊢
  have hs : s.heap.objs.size ≤ L := Nat.le_of_eq hL
  have K1 : Kp w s { s with heap := h₁ } := Kp.of (tk := s.toks) hk
  clear fo hb' hb
  -- if lo < 0
  refine wpAny_execs_cons ?_
  refine wpAny_If ?_
  refine wpAny_isTrue_Compare1 ?_ ?q1
  case q1 => rfl
  refine wpAny_Name (wpAny_loadName_local rfl rfl hn rfl ?_)
  refine wpAny_Constant_int ?_
  refine PyProof.Rows.lt_int ?_
  refine wpAny_truthy_bool ?_
  rw [if_neg (by decide)]
  refine wpAny_execs_nil ?_
  -- if hi is None
  refine wpAny_execs_cons ?_
  refine wpAny_If ?_
  refine wpAny_isTrue_Compare1 ?_ ?q1
  case q1 => rfl
  refine wpAny_Name (wpAny_loadName_local rfl rfl hn rfl ?_)
  refine wpAny_Constant_none ?_
  refine wpAny_is_self rfl ?_
  refine wpAny_truthy_bool ?_
  rw [if_pos rfl]
  refine wpAny_execs_cons ?_
  refine wpAny_Assign_Name ?_ ?q1
  case q1 => rfl
  refine Call_ ?_ ?q1
  case q1 => rfl
  refine nm_builtin G1.toG0 (g_len w) b_len ?_
  refine callWith_builtin1 ?_ ?q1 ?q2
  case q1 => rfl
  case q2 => rfl
  refine spliced_more ?_ ?q3
  case q3 => rfl
  refine wpAny_Name (wpAny_loadName_local rfl rfl hn rfl ?_)
  refine spliced_nil ?_
  obtain ⟨nr, hrow⟩ := R1.at_
  refine PySem.Calls.call_len_list (items := (rs.map Value.ref).toArray) ⟨_, hrow, rfl, _, rfl⟩ (by simp; omega) ?_
  refine wpAny_storeName_local rfl hn (fun h₂ hn₂ hs₂ => ?_) ?q1
  case q1 => rfl
  refine wpAny_execs_nil ?_
  dsimp only at hs₂
  have K2 : Kp w s { s with heap := h₂ } := (K1.write (tk := s.toks) hs hs₂.extBut)
  -- if key is None
  refine wpAny_execs_cons ?_
  refine wpAny_If ?_
  refine wpAny_isTrue_Compare1 ?_ ?q1
  case q1 => rfl
  refine wpAny_Name (wpAny_loadName_local rfl rfl hn₂ rfl ?_)
  refine wpAny_Constant_none ?_
  refine wpAny_is_other rfl (by nofun) ?_
  refine wpAny_truthy_bool ?_
  rw [if_neg (by decide)]
  refine wpAny_execs_cons ?_
  refine wpAny_While ?_
  have B2 : BLoc h₂ L row v 0 rs.length := ⟨_, hn₂, rfl, ⟨_, rfl⟩, ⟨_, rfl⟩, ⟨_, by
    show some (Value.int ((rs.map Value.ref).toArray.size : Int) _) = _
    rw [List.size_toArray, List.length_map]⟩, rfl⟩
  refine codeAny_whileLoop (fun k s' => ∃ lo hi : Nat, Kp w s s' ∧ BLoc s'.heap L row v lo hi ∧ lo ≤ hi ∧ hi ≤ rs.length ∧ (∀ j, j < lo → f j < v) ∧ (∀ j, hi ≤ j → j < rs.length → v ≤ f j) ∧ k = hi - lo) ?_ rs.length
    ⟨0, rs.length, K2.toks, B2, Nat.zero_le _, Nat.le_refl _, fun j hj => absurd hj (Nat.not_lt_zero _), fun j h1 h2 => absurd h2 (Nat.not_lt.mpr h1), rfl⟩
  clear B2 K2 hn₂ hs₂ hrow hn
  rintro k s' ⟨lo, hi, K3, ⟨m, hm, m1, ⟨tx, m2⟩, ⟨tl, m3⟩, ⟨th, m4⟩, m5⟩, hlh, hhi, hlow, hhigh, rfl⟩
  have G3 := K3.gd G
  have R3 := Rw.keep (fun b o hc e => K3.cls G hc e)
  refine wpAny_isTrue_Compare1 ?_ ?q1
  case q1 => rfl
  refine wpAny_Name (wpAny_loadName_local rfl rfl hm m3 ?_)
  refine wpAny_Name (wpAny_loadName_local rfl rfl hm m4 ?_)
  refine PyProof.Rows.lt_int ?_
  refine wpAny_truthy_bool ?_
  by_cases hlt : (lo : Int) < hi
  case neg =>
    rw [if_neg (by simpa using hlt)]
    refine wpAny_execs_nil ?_
    refine wpAny_execs_nil ?_
    refine wpAny_execs_cons ?_
    refine wpAny_Return_some ?_
    refine wpAny_Name (wpAny_loadName_local rfl rfl hm m3 ?_)
    have e : lo = hi := by omega
    exact h s' tl lo K3 (by omega) hlow (by rw [e]; exact hhigh)
  rw [if_pos (by simpa using hlt)]
  -- mid = (lo + hi) // 2
  refine wpAny_execs_cons ?_
  refine wpAny_Assign_Name ?_ ?q1
  case q1 => rfl
  refine wpAny_BinOp ?_
  refine wpAny_BinOp ?_
  refine wpAny_Name (wpAny_loadName_local rfl rfl hm m3 ?_)
  refine wpAny_Name (wpAny_loadName_local rfl rfl hm m4 ?_)
  refine PyProof.Rows.add_int ?_
  refine wpAny_Constant_int ?_
  refine floordiv_int (by decide) ?_ (Or.inl (PyProof.noPylong_small (by omega)))
  refine wpAny_storeName_local rfl hm (fun h₄ hn₄ hs₄ => ?_) ?q1
  case q1 => rfl
  dsimp only at hs₄
  have K4 : Kp w s { s' with heap := h₄ } := K3.write (tk := s'.toks) hs hs₄.extBut
  have G4 : Gd w h₄ := K4.gd G
  have R4 : RowIs h₄ row mg rs W := Rw.keep (fun b o hc e => K4.cls G hc e)
  have hmid : Int.fdiv ((lo : Int) + hi) 2 = ((lo + hi) / 2 : Nat) := by
    rw [Int.fdiv_eq_ediv_of_nonneg _ (by decide)]
    omega
  rw [hmid] at hn₄
  generalize hq : (lo + hi) / 2 = q at hn₄ hmid
  have hq1 : lo ≤ q := by omega
  have hq2 : q < hi := by omega
  -- if x < key(a[mid])
  refine wpAny_execs_cons ?_
  refine wpAny_If ?_
  refine wpAny_isTrue_Compare1 ?_ ?q1
  case q1 => rfl
  refine Call_ ?_ ?q1
  case q1 => rfl
  refine wpAny_Name (wpAny_loadName_local rfl rfl hn₄ ((if_neg (by decide)).trans m5) ?_)
  refine callWith_K G4.kin (keep139 w) ?_ ?q1 ?q2
  case q1 => rfl
  case q2 => rfl
  refine spliced_more ?_ ?q3
  case q3 => rfl
  refine wpAny_Subscript_Name (T := "list") slot_list_getitem.lookup ?_ ?q4
  case q4 => intro _ _; rfl
  refine wpAny_Name (wpAny_loadName_local rfl rfl hn₄ ((if_neg (by decide)).trans m1) ?_)
  refine wpAny_Name (wpAny_loadName_local rfl rfl hn₄ (if_pos rfl) ?_)
  obtain ⟨nr, hrow⟩ := R4.at_
  refine ⟨⟨_, hrow, rfl⟩, ?_⟩
  have hqr : q < rs.length := by omega
  have hat : rs[q]? = some rs[q] := by simp
  refine wpAny_getItem_list (items := (rs.map Value.ref).toArray) (x := .ref rs[q]) ⟨_, hrow, rfl, _, rfl⟩ (by omega) (by omega) (by simp) ?_
  refine spliced_nil ?_
  refine ⟨G4.kin, ?_⟩
  refine wpAny_call ?_
  refine taken_code hh (by show A.depth + 1 + 6 < _; omega) G4 (R4.line q _ hat) (S q hqr) fun s₅ t₅ k₅ => ?_
  rw [← hf q]
  have K5 : Kp w s s₅ := by
    refine Kp.trans (s' := { s' with heap := h₄ }) K4 ?_
    exact ⟨k₅.keep, k₅.gd, k₅.gens, k₅.os⟩
  have B5 : ∃ m, s₅.heap.Ns L m ∧ m "a" = some (.ref row) ∧ (∃ t, m "x" = some (.int v t)) ∧ (∃ t, m "lo" = some (.int lo t)) ∧ (∃ t, m "hi" = some (.int hi t)) ∧ m "key" = some (.ref 139) ∧ ∃ t, m "mid" = some (.int q t) := by
    obtain ⟨o, es, ep, ho, r⟩ := hn₄
    refine ⟨_, ⟨o, es, ep, k₅.keep _ _ ?_ ?_ ho, r⟩, (if_neg (by decide)).trans m1, ⟨_, (if_neg (by decide)).trans m2⟩, ⟨_, (if_neg (by decide)).trans m3⟩, ⟨_, (if_neg (by decide)).trans m4⟩, (if_neg (by decide)).trans m5, ⟨_, if_pos rfl⟩⟩
    · exact Nat.ne_of_gt (Nat.lt_of_lt_of_le G.t1.lt.2 hs)
    · exact Nat.ne_of_gt (Nat.lt_of_lt_of_le G.t2.lt.2 hs)
  clear hn₄ hs₄ hrow
  obtain ⟨m', hm', m1', ⟨tx', m2'⟩, ⟨tl', m3'⟩, ⟨th', m4'⟩, m5', ⟨tm', m6'⟩⟩ := B5
  refine wpAny_Name (wpAny_loadName_local rfl rfl hm' m2' ?_)
  refine PyProof.Rows.lt_int ?_
  refine wpAny_truthy_bool ?_
  by_cases hv : f q < v
  · rw [if_pos (by simpa using hv)]
    refine wpAny_execs_cons ?_
    refine wpAny_Assign_Name ?_ ?q1
    case q1 => rfl
    refine wpAny_BinOp ?_
    refine wpAny_Name (wpAny_loadName_local rfl rfl hm' m6' ?_)
    refine wpAny_Constant_int ?_
    refine PyProof.Rows.add_int ?_
    refine wpAny_storeName_local rfl hm' (fun h₆ hn₆ hs₆ => ?_) ?q1
    case q1 => rfl
    refine wpAny_execs_nil ?_
    refine wpAny_execs_nil ?_
    refine ⟨hi - (q + 1), by omega, q + 1, hi, K5.write (tk := _) hs hs₆.extBut, ⟨_, hn₆, (if_neg (by decide)).trans m1', ⟨_, (if_neg (by decide)).trans m2'⟩, ⟨_, if_pos (by rfl)⟩, ⟨_, (if_neg (by decide)).trans m4'⟩, (if_neg (by decide)).trans m5'⟩, by omega, by omega, fun j hj => Int.lt_of_le_of_lt (mono j q (by omega) hqr) hv, hhigh, rfl⟩
  · rw [if_neg (by simpa using hv)]
    refine wpAny_execs_cons ?_
    refine wpAny_Assign_Name ?_ ?q1
    case q1 => rfl
    refine wpAny_Name (wpAny_loadName_local rfl rfl hm' m6' ?_)
    refine wpAny_storeName_local rfl hm' (fun h₆ hn₆ hs₆ => ?_) ?q1
    case q1 => rfl
    refine wpAny_execs_nil ?_
    refine wpAny_execs_nil ?_
    refine ⟨q - lo, by omega, lo, q, K5.write (tk := _) hs hs₆.extBut, ⟨_, hn₆, (if_neg (by decide)).trans m1', ⟨_, (if_neg (by decide)).trans m2'⟩, ⟨_, (if_neg (by decide)).trans m3'⟩, ⟨_, if_pos rfl⟩, (if_neg (by decide)).trans m5'⟩, hq1, by omega, hlow, fun j h1 h2 => Int.le_trans (by omega) (mono q j h1 h2), rfl⟩
end
end Mine
end

section
open PySem PySem.W PyProof.Rows PySem.Calls
set_option maxRecDepth 100000
namespace Mine

theorem sz20 : 2 ^ 20 ≤ sizeLine := by unfold sizeLine; omega

theorem klow (w : World) : ∀ a o, (KK w).lookup a = some o → a < 150 := by
  intro a o e
  have hm : a ∈ (KK w).map (·.1) := by
    obtain ⟨⟨b, o'⟩, hm, h⟩ : ∃ p ∈ KK w, p.1 = a := by
      generalize KK w = K at e
      induction K with
      | nil => cases e
      | cons p K ih =>
        rw [List.lookup_cons] at e
        cases hq : (a == p.1) with
        | true => exact ⟨p, .head _, (beq_iff_eq.mp hq).symm⟩
        | false =>
          rw [hq] at e
          obtain ⟨q, h1, h2⟩ := ih e
          exact ⟨q, .tail _ h1, h2⟩
    exact List.mem_map.mpr ⟨_, hm, h⟩
  have all : ((KK w).map (·.1)).all (fun b => decide (b < 150)) = true := by rfl
  exact of_decide_eq_true (List.all_eq_true.mp all a hm)

theorem Gd.low {w : World} {h h' : Heap} (G : Gd w h) (k : ∀ (b : Addr) o, @LT.lt Nat _ b 150 → h.get? b = some o → h'.get? b = some o) : Gd w h' := by
  refine ⟨⟨fun a o e => k a o (klow w a o e) (G.kin a o e), ?_, ?_, ?_⟩, G.t1.two (fun o => k _ o (by decide)) (fun o => k _ o (by decide)), G.t2.two (fun o => k _ o (by decide)) (fun o => k _ o (by decide))⟩
  · obtain ⟨mb, ⟨o, es, ep, ho, r⟩, b⟩ := G.b
    exact ⟨mb, ⟨o, es, ep, k _ _ (by decide) ho, r⟩, b⟩
  · obtain ⟨o, ho, r⟩ := G.bmod
    exact ⟨o, k _ _ (by decide) ho, r⟩
  · obtain ⟨mc, ⟨o, es, ep, ho, r⟩, b⟩ := G.lim
    exact ⟨mc, ⟨o, es, ep, k _ _ (by decide) ho, r⟩, b⟩

/-- a step that writes one object of the call's own -/
structure Kx (w : World) (r : Addr) (s s' : Shared) : Prop where
  keep : ∀ b o, b ≠ 90 → b ≠ 97 → b ≠ r → s.heap.get? b = some o → s'.heap.get? b = some o
  gd : Gd w s.heap → Gd w s'.heap
  gens : AllBare s.gens → AllBare s'.gens
  os : s'.os = s.os
theorem Kp.x {w : World} {r : Addr} {s s' : Shared} (k : Kp w s s') : Kx w r s s' := ⟨fun b o h1 h2 _ e => k.keep b o h1 h2 e, k.gd, k.gens, k.os⟩
theorem Kx.trans {w : World} {r : Addr} {s s' s'' : Shared} (x : Kx w r s s') (y : Kx w r s' s'') : Kx w r s s'' :=
  ⟨fun b o h1 h2 h3 e => y.keep b o h1 h2 h3 (x.keep b o h1 h2 h3 e), fun g => y.gd (x.gd g), fun g => y.gens (x.gens g), y.os.trans x.os⟩
theorem Kx.cls {w : World} {r : Addr} {s s' : Shared} (x : Kx w r s s') (G : Gd w s.heap) {b : Addr} {o : Obj} (hr : b ≠ r) (hc : o.cls ≠ .none) (e : s.heap.get? b = some o) : s'.heap.get? b = some o :=
  x.keep b o (G.t1.ne e hc) (G.t2.ne e hc) hr e
theorem Kx.of {w : World} {r : Addr} {s : Shared} {h' : Heap} {tk : Nat} (hr : @LE.le Nat _ 150 r) (k : Heap.SameBut r s.heap h') : Kx w r s { s with heap := h', toks := tk } :=
  ⟨fun b o _ _ h e => k.extBut b o h e, fun g => g.low fun b o hb e => k.extBut b o (Nat.ne_of_lt (Nat.lt_of_lt_of_le hb hr)) e, id, rfl⟩

section
variable {prog : Program} {w : World} {A : Around} {E : Value → Shared → Prop} {s : Shared} {r : Addr} {n : Nat}

theorem ins_at {l : List Value} {k : Nat} {x : Int} {u : Tok} {y : Value} {Q : Value → Shared → Prop} (hx : x = (k : Int)) (ho : s.heap.get? r = some (listOf l.toArray n)) (hk : k ≤ l.length) (hz : l.length ≤ 2 ^ 20)
    (h : ∀ h', Heap.SameBut r s.heap h' → h'.get? r = some (listOf (l.take k ++ y :: l.drop k).toArray (n + 1)) → Q .none { s with heap := h' }) :
    wpAny (model prog w) A (call (.builtin "list.insert") [.ref r, .int x u, y]) Q E s := by
  have hz' : l.toArray.size ≤ sizeLine := by rw [List.size_toArray]; exact Nat.le_trans hz sz20
  have hfit : Builtin.List.listFitsIndex x = true := fitsIndex_of (by omega) (by omega)
  have hfit' : ¬ (!Builtin.List.listFitsIndex x) = true := by rw [hfit]; decide
  have M := PySem.AutoSeq1.list_insert_list_int_val_1 r l.toArray n x u y hfit' hz'
  refine call_meets PySem.F.slot_list_insert ⟨_, ho, rfl⟩ PySem.F.entry_list_insert (PySem.F.args_list_insert_3 _ _ _) M ?_
  refine ⟨ho, h _ (Heap.SameBut.update ..) ?_⟩
  let f : Array Value → Array Value := fun xs => have k := if x < 0 then (x + (xs.size : Int)).toNat else min x.toNat xs.size; (xs.extract 0 k).push y ++ xs.extract k
  have q := PySem.IsL.update (show PySem.IsL s.heap r l.toArray n from ho) f
  have e : f l.toArray = (l.take k ++ y :: l.drop k).toArray := by
    have hmin : min x.toNat l.toArray.size = k := by rw [hx, Int.toNat_natCast, List.size_toArray, Nat.min_eq_left hk]
    show (l.toArray.extract 0 (if x < 0 then (x + (l.toArray.size : Int)).toNat else min x.toNat l.toArray.size)).push y ++ l.toArray.extract (if x < 0 then (x + (l.toArray.size : Int)).toNat else min x.toNat l.toArray.size) = _
    rw [if_neg (by omega), hmin, kl_ins_eq]
  rw [e, if_neg (by
    simp only [List.size_toArray, List.length_append, List.length_cons, List.length_take, List.length_drop, beq_iff_eq]
    omega)] at q
  exact q

theorem pop_at {p q : List Value} {x : Int} {u : Tok} {y : Value} {Q : Value → Shared → Prop} (hx : x = (p.length : Int)) (ho : s.heap.get? r = some (listOf (p ++ y :: q).toArray n)) (hz : (p ++ y :: q).length ≤ 2 ^ 20)
    (h : ∀ h', Heap.SameBut r s.heap h' → h'.get? r = some (listOf (p ++ q).toArray (n + 1)) → Q y { s with heap := h' }) :
    wpAny (model prog w) A (call (.builtin "list.pop") [.ref r, .int x u]) Q E s := by
  have hz' : (p ++ y :: q).toArray.size ≤ sizeLine := by rw [List.size_toArray]; exact Nat.le_trans hz sz20
  have hl : p.length < 2 ^ 20 + 1 := by rw [List.length_append] at hz; omega
  have hy : (p ++ y :: q).toArray[p.length]? = some y := by simp
  have hfit : Builtin.List.listFitsIndex x = true := fitsIndex_of (by omega) (by omega)
  have hidx : seqIndex? x (p ++ y :: q).toArray.size = some p.length := by
    have hsz : ((p ++ y :: q).toArray.size : Int) = p.length + (q.length + 1) := by simp
    have hneg : ¬ x < 0 := by omega
    have hin : (decide (0 ≤ x) && decide (x < ((p ++ y :: q).toArray.size : Int))) = true := by
      rw [hsz]
      simp only [Bool.and_eq_true, decide_eq_true_eq]
      omega
    unfold seqIndex?
    rw [if_neg hneg]
    dsimp only
    rw [if_pos hin, hx, Int.toNat_natCast]
  have M := PySem.MeetsSeq.list_pop_at r _ n x u _ y hfit hidx hy hz'
  refine call_meets PySem.F.slot_list_pop ⟨_, ho, rfl⟩ PySem.F.entry_list_pop (PySem.F.args_list_pop_2 _ _) M ?_
  refine ⟨ho, h _ (Heap.SameBut.update ..) ?_⟩
  let f : Array Value → Array Value := fun xs => xs.eraseIdxIfInBounds p.length
  have e := PySem.IsL.update (show PySem.IsL s.heap r (p ++ y :: q).toArray n from ho) f
  have ef : f (p ++ y :: q).toArray = (p ++ q).toArray := kl_erase p q y
  rw [ef, if_neg (by
    simp only [List.size_toArray, List.length_append, List.length_cons, beq_iff_eq]
    omega)] at e
  exact e

theorem meth_list {name : Str} {id : String} {pl : Sem Bool} {its : Array Value} {Q : Value × List Value → Shared → Prop} (ho : s.heap.get? r = some (listOf its n)) (slot : Slot "list" name id) (hty : typeOf (.builtin id) = pure (.type "method_descriptor"))
    (h : Q (.builtin id, [.ref r]) s) : wpAny (model prog w) A (getMethod (.ref r) name pl) Q E s :=
  getMethod_builtin ⟨_, ho, rfl⟩ PySem.F.plainAttrs_list slot hty (fun a e => by cases e; exact ⟨_, ho, rfl⟩) h

theorem callKw1 {M : Model} {env : Env} {pos kp : Pos} {f : Addr} {o : Obj} {fd : FuncData} {e v : Expr} {rest : List Expr} {nm : Str} {Q : Value → Shared → Prop} (hdat : o.data = .func fd)
    (h : wpAny M A (spliced (backTo pos (starEach (e :: rest) env))) (fun vs s₁ => wpAny M A (eval v env) (fun kv s₂ => s₂.heap.get? f = some o ∧ wpAny M A (call (.ref f) vs [(nm, kv)]) Q E s₂) E s₁) E s)
    (he : starEach (e :: rest) env = (false, eval e env) :: starEach rest env) :
    wpAny M A (callWith pos (.ref f) [] (backTo pos (starEach (e :: rest) env)) (backToKw pos (keywordEach [⟨some nm, v, kp⟩] env))) Q E s := by
  rw [he] at h ⊢
  refine callWith_def_kw hdat ?_
  refine evalArgs_kw (x := eval e env) (rest := backTo pos (starEach rest env)) (keywords := backToKw pos (keywordEach [⟨some nm, v, kp⟩] env)) rfl ?_
  refine wpAny_mono h (fun vs s₁ h₁ => ?_) fun _ _ x => x
  show wpAny M A (evalAll [do let v ← eval v env; standAt pos; pure v]) _ E s₁
  refine evalAll_cons ?_
  refine wpAny_bind (wpAny_mono h₁ (fun kv s₂ h₂ => ?_) fun _ _ x => x)
  exact wpAny_bind (wpAny_standAt (wpAny_pure (evalAll_nil h₂)))
end
end Mine
end

section
open PySem PySem.W PyProof.Rows PySem.Calls
set_option maxRecDepth 100000
namespace Mine
section
variable {prog : Program} {w : World} {A : Around} {E : Value → Shared → Prop} {s : Shared}

theorem kf39 (w : World) : ∃ o fd, (KK w).lookup 39 = some o ∧ o.data = .func fd := ⟨_, _, by rfl, rfl⟩
theorem kf48 (w : World) : ∃ o fd, (KK w).lookup 48 = some o ∧ o.data = .func fd := ⟨_, _, by rfl, rfl⟩
theorem kf30 (w : World) : ∃ o fd, (KK w).lookup 30 = some o ∧ o.data = .func fd := ⟨_, _, by rfl, rfl⟩

set_option maxHeartbeats 8000000 in
/-- insort_right(row, x, key=_law_taken) -/
theorem insort_code {R : Result → Shared → Prop} {row x : Addr} {mg : Int} {rs : List Addr} {W : Nat → List Str} {wx : List Str} {f : Nat → Int}
    (hh : A.handled = none) (hr : A.depth + 9 < recursionLimit) (G : Gd w s.heap) (Rw : RowIs s.heap row mg rs W) (hx : LineAt s.heap x mg wx) (S : ∀ i, i < rs.length → Small mg (W i)) (Sx : Small mg wx) (hlen : rs.length < 2 ^ 20)
    (h150 : @LE.le Nat _ 150 row) (hf : ∀ i, f i = mg + signs (W i)) (mono : ∀ i j, i ≤ j → j < rs.length → f i ≤ f j)
    (h : ∀ s' (k : Nat), Kx w row s s' → k ≤ rs.length → (∀ j, j < k → f j ≤ mg + signs wx) → (∀ j, k ≤ j → j < rs.length → mg + signs wx < f j) →
      (∃ n, s'.heap.get? row = some (listOf ((rs.take k ++ x :: rs.drop k).map Value.ref).toArray n)) → R (.ok (.ret .none)) s') :
    codeAny (model prog w) A (.call (.ref 30) ⟨[.ref row, .ref x], [(Str.ofString "key", .ref 139)]⟩) R s := by
  have fo := G.kin 30 _ (by rfl)
  refine codeAny_call_def (binds := [(Str.ofString "a", .ref row), (Str.ofString "x", .ref x), (Str.ofString "lo", .int 0 196), (Str.ofString "hi", .none), (Str.ofString "key", .ref 139)])
    (by omega) fo rfl G.lim (codeRec_of G.kin (by kernel_rfl)) rfl (kp_binds G.kin fun S => by kernel_rfl) (by decide) (locs rfl) (fun h₁ hn hk => ?_)
  have G1 : Gd w h₁ := G.keeps hk
  have R1 := Rw.keep (fun b o _ e => hk b o e)
  have x1 := hx.keep (fun b o _ e => hk b o e)
  have K1 : Kp w s { s with heap := h₁ } := Kp.of (tk := s.toks) hk
  have hs : s.heap.objs.size ≤ s.heap.objs.size := Nat.le_refl _
  generalize hL : s.heap.objs.size = L at hn hs ⊢
  clear fo
  refine wpAny_execs_cons ?_
  refine wpAny_If ?_
  refine wpAny_isTrue_Compare1 ?_ ?q1
  case q1 => rfl
  refine wpAny_Name (wpAny_loadName_local rfl rfl hn rfl ?_)
  refine wpAny_Constant_none ?_
  refine wpAny_is_other rfl (by nofun) ?_
  refine wpAny_truthy_bool ?_
  rw [if_neg (by decide)]
  refine wpAny_execs_cons ?_
  refine wpAny_Assign_Name ?_ ?q1
  case q1 => rfl
  refine wpAny_Call_Name_kw ?_
  refine nm_glob G1.toG0 (g_bis w) ?_
  obtain ⟨o39, fd39, e39, d39⟩ := kf39 w
  refine callKw1 d39 ?_ ?q1
  case q1 => rfl
  refine spliced_more ?_ ?q3
  case q3 => rfl
  refine wpAny_Name (wpAny_loadName_local rfl rfl hn rfl ?_)
  refine spliced_more ?_ ?q3
  case q3 => rfl
  refine Call_ ?_ ?q1
  case q1 => rfl
  refine wpAny_Name (wpAny_loadName_local rfl rfl hn rfl ?_)
  refine callWith_K G1.kin (keep139 w) ?_ ?q1 ?q2
  case q1 => rfl
  case q2 => rfl
  refine spliced_more ?_ ?q3
  case q3 => rfl
  refine wpAny_Name (wpAny_loadName_local rfl rfl hn rfl ?_)
  refine spliced_nil ?_
  refine ⟨G1.kin, ?_⟩
  refine wpAny_call ?_
  refine taken_code hh (by show A.depth + 1 + 6 < _; omega) G1 x1 Sx fun s₂ t₂ k₂ => ?_
  have K2 : Kp w s s₂ := K1.trans (s' := { s with heap := h₁ }) ⟨k₂.keep, k₂.gd, k₂.gens, k₂.os⟩
  have G2 := K2.gd G
  have hn2 : s₂.heap.Ns L fun x_1 => List.lookup x_1 [(Str.ofString "a", Value.ref row), (Str.ofString "x", Value.ref x), (Str.ofString "lo", Value.int 0 196), (Str.ofString "hi", Value.none), (Str.ofString "key", Value.ref 139)].reverse := by
    obtain ⟨o, es, ep, ho, r⟩ := hn
    exact ⟨o, es, ep, k₂.keep _ _ (Nat.ne_of_gt (hL ▸ G.t1.lt.2)) (Nat.ne_of_gt (hL ▸ G.t2.lt.2)) ho, r⟩
  refine spliced_more ?_ ?q3
  case q3 => rfl
  refine wpAny_Name (wpAny_loadName_local rfl rfl hn2 rfl ?_)
  refine spliced_more ?_ ?q3
  case q3 => rfl
  refine wpAny_Name (wpAny_loadName_local rfl rfl hn2 rfl ?_)
  refine spliced_nil ?_
  refine wpAny_Name (wpAny_loadName_local rfl rfl hn2 rfl ?_)
  refine ⟨G2.kin 39 _ e39, ?_⟩
  refine wpAny_call ?_
  refine bisR_code (f := f) (v := mg + signs wx) (t0 := 196) (tv := t₂) ?_ hh (by show A.depth + 1 + 8 < _; omega) G2 (Rw.keep fun b o hc e => K2.cls G hc e) S hlen hf mono fun s₃ t₃ k k₃ hk1 hk2 hk3 => ?_
  · intro o fd e1 e2
    have f1 := G2.kin 39 _ (by rfl)
    cases f1.symm.trans (G2.kin 39 o e1)
    cases e2
    exact kp_binds G2.kin fun S => by kernel_rfl
  have K3 := K2.trans k₃
  have G3 := K3.gd G
  have hn3 : s₃.heap.Ns L fun x_1 => List.lookup x_1 [(Str.ofString "a", Value.ref row), (Str.ofString "x", Value.ref x), (Str.ofString "lo", Value.int 0 196), (Str.ofString "hi", Value.none), (Str.ofString "key", Value.ref 139)].reverse := by
    obtain ⟨o, es, ep, ho, r⟩ := hn2
    exact ⟨o, es, ep, k₃.keep _ _ (Nat.ne_of_gt (hL ▸ G.t1.lt.2)) (Nat.ne_of_gt (hL ▸ G.t2.lt.2)) ho, r⟩
  refine wpAny_storeName_local rfl hn3 (fun h₄ hn₄ hs₄ => ?_) ?q1
  case q1 => rfl
  have K4 : Kp w s { s₃ with heap := h₄ } := K3.write (tk := s₃.toks) (Nat.le_of_eq hL) hs₄.extBut
  have G4 : Gd w h₄ := K4.gd G
  obtain ⟨nr, hrow⟩ := (Rw.keep (h' := h₄) fun b o hc e => K4.cls G hc e).at_
  refine wpAny_execs_nil ?_
  refine wpAny_execs_cons ?_
  refine wpAny_Expr ?_ ?q1 ?q2
  case q1 => rfl
  case q2 => rfl
  refine MethodCall_ ?_
  refine wpAny_Name (wpAny_loadName_local rfl rfl hn₄ rfl ?_)
  refine meth_list hrow PySem.F.slot_list_insert PySem.F.type_list_insert ?_
  refine callWith_method1 ?_ ?q1 ?q2
  case q1 => rfl
  case q2 => rfl
  refine spliced_more ?_ ?q3
  case q3 => rfl
  refine wpAny_Name (wpAny_loadName_local rfl rfl hn₄ (if_pos rfl) ?_)
  refine spliced_more ?_ ?q3
  case q3 => rfl
  refine wpAny_Name (wpAny_loadName_local rfl rfl hn₄ rfl ?_)
  refine spliced_nil ?_
  refine ins_at (l := rs.map Value.ref) (k := k) rfl hrow (by rw [List.length_map]; exact hk1) (by rw [List.length_map]; omega) fun h₅ hs₅ ho₅ => ?_
  refine wpAny_execs_nil ?_
  refine h _ k ?_ hk1 hk2 hk3 ⟨_, by
    rw [List.map_append, List.map_cons, List.map_take, List.map_drop]
    exact ho₅⟩
  refine Kx.trans (s' := { s₃ with heap := h₄, toks := s₃.toks + 1 }) (K4.toks (tk := s₃.toks + 1)).x ?_
  exact Kx.of (tk := s₃.toks + 1) h150 hs₅
end
end Mine
end

section
open PySem PySem.W PyProof.Rows PySem.Calls
set_option maxRecDepth 100000
namespace Mine

theorem range_filter_succ (p : Nat → Bool) (i : Nat) : (List.range (i + 1)).filter p = (List.range i).filter p ++ (if p i = true then [i] else []) := by
  rw [List.range_succ, List.filter_append]
  cases h : p i <;> simp [h]

section
variable {prog : Program} {w : World} {A : Around} {E : Value → Shared → Prop} {s : Shared} {env : Env}

/-- what a list comprehension over a list asks of its test and its element, and what it gives -/
structure CompOn (prog : Program) (w : World) (A : Around) (env : Env) (scope : Scope) (cl : List (Str × Addr)) (x : Str) (ifs : List Expr) (elt : Expr) (vs : List Value) (p : Nat → Bool) (F : Nat → Value → Prop) (s₁ : Shared) : Prop where
  tests : ∀ (C : Addr) (i : Nat) (v : Value) (s₂ : Shared) (m : Str → Option Value) E', vs[i]? = some v → Kp w s₁ s₂ → Gd w s₂.heap → s₁.heap.objs.size ≤ C → s₂.heap.Ns C m → m x = some v →
    wpAny (model prog w) A (forIn ifs true fun c r => if r = true then do let ok ← isTrue c (compEnvC scope cl C env) (eval c (compEnvC scope cl C env)); pure (ForInStep.yield ok) else pure (ForInStep.yield r))
      (fun ok s₃ => ok = p i ∧ Kp w s₂ s₃) E' s₂
  elt : ∀ (C : Addr) (i : Nat) (v : Value) (s₂ : Shared) (m : Str → Option Value) E', vs[i]? = some v → p i = true → Kp w s₁ s₂ → Gd w s₂.heap → s₁.heap.objs.size ≤ C → s₂.heap.Ns C m → m x = some v →
    wpAny (model prog w) A (eval elt (compEnvC scope cl C env)) (fun y s₃ => F i y ∧ Kp w s₂ s₃) E' s₂

set_option maxHeartbeats 4000000 in
theorem comp_core {elt iter : Expr} {x : Str} {px : Pos} {ifs : List Expr} {scope : Scope} {cl : List (Str × Addr)} {pos : Pos} {RR : Value → Addr → Result → Shared → Prop} {s₁ : Shared} {l : Addr} {vs : List Value} {n : Nat} {p : Nat → Bool} {F : Nat → Value → Prop}
    (hh : A.handled = none) (hcell : ∀ y ∈ scope.names, y.2 ≠ .cell) (hkind : scope.kind = .function) (hx : scope.names.lookup x = some .local)
    (G : Gd w s₁.heap) (hl : s₁.heap.get? l = some (listOf (List.toArray vs) n)) (hlen : vs.length ≤ 2 ^ 20) (O : CompOn prog w A env scope cl x ifs elt vs p F s₁)
    (hQ : ∀ D C s' ys k m, Kp w s₁ s' → s₁.heap.objs.size ≤ D → s₁.heap.objs.size ≤ C → D ≠ C → s'.heap.get? D = some (listOf (List.toArray ys) k) → s'.heap.Ns C m → Paired F ((List.range vs.length).filter p) ys → RR (.ref D) C (.ok .next) s') :
    wpAny (model prog w) A (pyIter (.ref l)) (fun it s₂ => wpAny (model prog w) A (newList []) (fun acc s₃ => wpAny (model prog w) A (newFunctionEnv scope env.globals cl [] env.qual none .none (some env)) (fun cenv s₄ =>
      codeAny (model prog w) A (.compStart (.ListComp elt [⟨.Name x px, iter, ifs, 0⟩] scope pos) 0 it acc { cenv with scope := relabel scope env }) (RR acc cenv.locals) s₄) E s₃) E s₂) E s₁ := by
  obtain ⟨hp, gs, dr, tk, os⟩ := s₁
  dsimp only at G hl hQ
  refine wpAny_pyIter_list (items := vs.toArray) ⟨_, hl, rfl, _, rfl⟩ ?_
  dsimp only
  generalize hI : hp.objs.size = I
  generalize hH2 : hp.push { cls := Value.type "list_iterator", data := Data.fields #[Value.ref l, Value.int 0 0] } = h₂
  refine wpAny_newObj_type (wpAny_newFunctionEnv hcell (by intro y hy; simp at hy) (fun h₄ hns₄ hsb₄ => ?_) hkind)
  dsimp only at hns₄ hsb₄ ⊢
  have z2 : h₂.objs.size = I + 1 := by rw [← hH2, Heap.size_push, hI]
  generalize hD : h₂.objs.size = D at hns₄ hsb₄ ⊢
  generalize hH3 : h₂.push { cls := .type "list", dict := none, data := .seq ([] : List Value).toArray } = h₃ at hns₄ hsb₄ ⊢
  have z3 : h₃.objs.size = D + 1 := by rw [← hH3, Heap.size_push, hD]
  generalize hC : h₃.objs.size = C at hns₄ hsb₄ ⊢
  have eDI : D = I + 1 := by omega
  have eCI : C = I + 2 := by omega
  have nID : I ≠ D := Nat.ne_of_lt (by omega)
  have nIC : I ≠ C := Nat.ne_of_lt (by omega)
  have nDC : D ≠ C := Nat.ne_of_lt (by omega)
  have lI : @LE.le Nat _ hp.objs.size I := by omega
  have lD : @LE.le Nat _ hp.objs.size D := by omega
  have lC : @LE.le Nat _ hp.objs.size C := by omega
  have lt90 : @LT.lt Nat _ 90 hp.objs.size := G.t1.lt.2
  have lt97 : @LT.lt Nat _ 97 hp.objs.size := G.t2.lt.2
  have ne : ∀ {b : Addr}, @LE.le Nat _ hp.objs.size b → b ≠ 90 ∧ b ≠ 97 := fun hb => ⟨Nat.ne_of_gt (by omega), Nat.ne_of_gt (by omega)⟩
  have k4 : ∀ b o, b ≠ C → h₃.get? b = some o → h₄.get? b = some o := fun b o hb e => hsb₄.extBut b o hb (Heap.get?_push_of_some _ e)
  have k3 : ∀ b o, h₂.get? b = some o → h₃.get? b = some o := fun b o e => hH3 ▸ Heap.get?_push_of_some _ e
  have k2 : ∀ b o, hp.get? b = some o → h₂.get? b = some o := fun b o e => hH2 ▸ Heap.get?_push_of_some _ e
  have K4 : Kp w ⟨hp, gs, dr, tk, os⟩ ⟨h₄, gs, dr, tk, os⟩ := Kp.of (tk := tk) fun b o e => k4 b o (Nat.ne_of_lt (Nat.lt_of_lt_of_le (Heap.lt_size e) lC)) (k3 b o (k2 b o e))
  have hit4 : h₄.IsListIter I l 0 := ⟨_, k4 I _ nIC (k3 I _ (by rw [← hH2, ← hI]; exact Heap.get?_push_size _ rfl)), rfl, rfl⟩
  have hD4 : h₄.get? D = some (listOf ([] : List Value).toArray 0) := k4 D _ nDC (by rw [← hH3, ← hD]; exact Heap.get?_push_size _ rfl)
  have loop : ∀ s₃ : Shared, s₃ = ⟨h₄, gs, dr, tk + ([] : List (Str × Value)).length, os⟩ →
      codeAny (model prog w) A (.compLoop (.ListComp elt [⟨.Name x px, iter, ifs, 0⟩] scope pos) 0 (.ref I) (.ref D) (compEnvC scope cl C env))
        (RR (.ref D) C) s₃ := by
    rintro s₃ rfl
    refine codeAny_compLoop_tests (fun k s' => ∃ i ys kk m, Kp w ⟨hp, gs, dr, tk, os⟩ s' ∧ s'.heap.IsListIter I l i ∧ s'.heap.get? D = some (listOf (List.toArray ys) kk) ∧ s'.heap.Ns C m ∧
      Paired F ((List.range i).filter p) ys ∧ i ≤ vs.length ∧ k = vs.length - i) ?_ vs.length
      ⟨0, [], 0, _, K4.toks, hit4, hD4, hns₄, Paired.nil, Nat.zero_le _, rfl⟩ (fun _ => rfl)
    rintro k s' ⟨i, ys, kk, m, K, hit, hDs, hm, hP, hi, rfl⟩
    have hls := K.cls G (by nofun) hl
    by_cases hlt : i < vs.length
    case neg =>
      have hin : i = vs.length := by omega
      subst hin
      refine nx_end hh hit hls rfl (by simp) fun h₅ hx₅ => ?_
      have K5 : Kp w ⟨hp, gs, dr, tk, os⟩ { s' with heap := h₅ } := K.write (tk := s'.toks) lI hx₅
      exact hQ D C _ ys kk _ K5 lD lC nDC (hx₅ D _ (Ne.symm nID) hDs) (hm.extBut hx₅ (Ne.symm nIC)) hP
    have hv : vs[i]? = some vs[i] := by simp
    refine nx_item hit hls rfl (x := vs[i]) (by simp [hlt]) fun h₅ hit₅ hs₅ => ?_
    have K5 : Kp w ⟨hp, gs, dr, tk, os⟩ { s' with heap := h₅ } := K.write (tk := s'.toks) lI hs₅.extBut
    refine wpAny_assign_Name (wpAny_storeName_local (lookup_relabel_local hx) (hm.sameBut hs₅ (Ne.symm nIC)) (fun h₆ hn₆ hs₆ => ?_) ?q1)
    case q1 => simp [compEnvC, relabel, hkind]
    have hs₆ : Heap.SameBut C h₅ h₆ := hs₆
    have hn₆ : h₆.Ns C (fun y => if y = x then some vs[i] else m y) := hn₆
    have K6 : Kp w ⟨hp, gs, dr, tk, os⟩ { s' with heap := h₆, toks := s'.toks + 1 } := K5.write (tk := s'.toks + 1) lC hs₆.extBut
    have hit6 : h₆.IsListIter I l (i + 1) := hit₅.extBut hs₆.extBut nIC
    have hD6 := hs₆.extBut D _ nDC (hs₅.extBut D _ (Ne.symm nID) hDs)
    refine wpAny_mono (O.tests C i vs[i] _ _ _ hv K6 (K6.gd G) lC hn₆ (if_pos rfl)) (fun ok s₇ h₇ => ?_) fun _ _ e => e
    obtain ⟨rfl, k7⟩ := h₇
    have K7 := K6.trans k7
    have hit7 : s₇.heap.IsListIter I l (i + 1) := let ⟨o, e, r⟩ := hit6; ⟨o, k7.keep _ _ (ne lI).1 (ne lI).2 e, r⟩
    have hD7 := k7.keep _ _ (ne lD).1 (ne lD).2 hD6
    have hn7 : s₇.heap.Ns C (fun y => if y = x then some vs[i] else m y) := let ⟨o, es, ep, e, r⟩ := hn₆; ⟨o, es, ep, k7.keep _ _ (ne lC).1 (ne lC).2 e, r⟩
    cases hpi : p i with
    | false =>
      rw [if_neg (by decide)]
      refine ⟨vs.length - (i + 1), by omega, i + 1, ys, kk, _, K7, hit7, hD7, hn7, ?_, hlt, rfl⟩
      rw [range_filter_succ, hpi]
      simpa using hP
    | true =>
      rw [if_pos rfl]
      refine wpAny_mono (O.elt C i vs[i] _ _ _ hv hpi K7 (K7.gd G) lC hn7 (if_pos rfl)) (fun y s₈ h₈ => ?_) fun _ _ e => e
      obtain ⟨hF, k8⟩ := h₈
      have K8 := K7.trans k8
      have hit8 : s₈.heap.IsListIter I l (i + 1) := let ⟨o, e, r⟩ := hit7; ⟨o, k8.keep _ _ (ne lI).1 (ne lI).2 e, r⟩
      have hD8 := k8.keep _ _ (ne lD).1 (ne lD).2 hD7
      have hn8 : s₈.heap.Ns C (fun y => if y = x then some vs[i] else m y) := let ⟨o, es, ep, e, r⟩ := hn7; ⟨o, es, ep, k8.keep _ _ (ne lC).1 (ne lC).2 e, r⟩
      have hyl : ys.length ≤ vs.length := by
        have e1 := hP.length
        have e2 : ((List.range i).filter p).length ≤ (List.range i).length := List.length_filter_le _ _
        rw [List.length_range] at e2
        omega
      refine append_at hD8 (fun h₉ hs₉ hD9 => ?_) (by rw [List.size_toArray]; exact Nat.le_trans (Nat.le_trans hyl hlen) sz20)
      refine ⟨vs.length - (i + 1), by omega, i + 1, ys ++ [y], kk + 1, _, K8.write (tk := s₈.toks) lD hs₉.extBut, hit8.extBut hs₉.extBut nID, ?_, hn8.sameBut hs₉ (Ne.symm nDC), ?_, hlt, rfl⟩
      · rw [hD9]; simp
      · rw [range_filter_succ, hpi, if_pos rfl]
        exact Paired.snoc hP hF
  exact codeAny_compStart_list (loop _ rfl) (wpAny_pyIter_listiter hit4 (loop _ rfl))

theorem comp_rule {elt iter : Expr} {x : Str} {px : Pos} {ifs : List Expr} {scope : Scope} {cl : List (Str × Addr)} {pos : Pos} {Q : Value → Shared → Prop}
    (hh : A.handled = none) (hclos : closureFor scope env = pure cl) (hcell : ∀ y ∈ scope.names, y.2 ≠ .cell) (hkind : scope.kind = .function)
    (hnames : ∀ y ∈ scope.names, y.2 = .local → scope.names.lookup y.1 = some .local) (hx : scope.names.lookup x = some .local) (hs : ∀ x, foldedSetIterable iter env x = pure x)
    (h : wpAny (model prog w) A (eval iter env) (fun xv s₁ => ∃ l vs n p F, xv = .ref l ∧ Gd w s₁.heap ∧ s₁.heap.get? l = some (listOf (List.toArray vs) n) ∧ vs.length ≤ 2 ^ 20 ∧ CompOn prog w A env scope cl x ifs elt vs p F s₁ ∧
      ∀ D s' ys k, Kp w s₁ s' → s₁.heap.objs.size ≤ D → s'.heap.get? D = some (listOf (List.toArray ys) k) → Paired F ((List.range vs.length).filter p) ys → Q (.ref D) s') E s) :
    wpAny (model prog w) A (eval (.ListComp elt [⟨.Name x px, iter, ifs, 0⟩] scope pos) env) Q E s := by
  rw [eval_ListComp]
  refine wpAny_comprehension_free (use := none) rfl hs hclos hkind hnames (wpAny_mono h (fun xv s₁ h₁ => ?_) fun _ _ e => e)
  obtain ⟨l, vs, n, p, F, rfl, G, hl, hlen, O, hQ⟩ := h₁
  exact comp_core hh hcell hkind hx G hl hlen O fun D C s' ys k m K lD lC nDC hD hm hP => ⟨m, hm, fun h₆ hs₆ => hQ D _ ys k (K.write (tk := s'.toks) lC hs₆.extBut) lD (hs₆.extBut D _ nDC hD) hP⟩

/-- y = [elt for x in a list if ..] -/
theorem comp_assign {elt iter : Expr} {x y : Str} {px py : Pos} {ifs : List Expr} {scope : Scope} {cl : List (Str × Addr)} {pos spos : Pos} {Q : Flow → Shared → Prop}
    (hsw : swapsWith (.ListComp elt [⟨.Name x px, iter, ifs, 0⟩] scope pos) (some (.Name y py)) spos.line env = pure true) (hy : env.kindOf y = some .local)
    (hp : (env.scope.kind == .class || (env.scope.kind == .module && env.locals != env.globals)) = false) (hL : @LE.le Nat _ 150 env.locals)
    (hh : A.handled = none) (hclos : closureFor scope env = pure cl) (hcell : ∀ y ∈ scope.names, y.2 ≠ .cell) (hkind : scope.kind = .function)
    (hnames : ∀ y ∈ scope.names, y.2 = .local → scope.names.lookup y.1 = some .local) (hx : scope.names.lookup x = some .local) (hs : ∀ x, foldedSetIterable iter env x = pure x)
    (h : wpAny (model prog w) A (eval iter env) (fun xv s₁ => ∃ l vs n p F m, xv = .ref l ∧ Gd w s₁.heap ∧ s₁.heap.Ns env.locals m ∧ s₁.heap.get? l = some (listOf (List.toArray vs) n) ∧ vs.length ≤ 2 ^ 20 ∧ CompOn prog w A env scope cl x ifs elt vs p F s₁ ∧
      ∀ D s' ys k, Kx w env.locals s₁ s' → s'.heap.Ns env.locals (fun z => if z = y then some (.ref D) else m z) → s₁.heap.objs.size ≤ D → s'.heap.get? D = some (listOf (List.toArray ys) k) → Paired F ((List.range vs.length).filter p) ys → Q .next s') E s) :
    wpAny (model prog w) A (exec (.Assign [.Name y py] (.ListComp elt [⟨.Name x px, iter, ifs, 0⟩] scope pos) spos) env) Q E s := by
  rw [exec_Assign_Name_used _ _ _ _ hsw]
  refine wpAny_bind (wpAny_standAt (wpAny_bind ?_))
  show wpAny _ A (do let _ ← comprehension (.ListComp elt [⟨.Name x px, iter, ifs, 0⟩] scope pos) scope env _ (newList []) false (eval iter env) (some (assign (.Name y py) env))) _ _ s
  refine wpAny_bind (wpAny_mono (wpAny_comprehension_free (use := some (assign (.Name y py) env)) (Q := fun _ s' => Q .next s') rfl hs hclos hkind hnames
    (wpAny_mono h (fun xv s₁ h₁ => ?_) fun _ _ e => e)) (fun _ s' hq => wpAny_pure (wpAny_pure hq)) fun _ _ e => e)
  obtain ⟨l, vs, n, p, F, m, rfl, G, hm₁, hl, hlen, O, hQ⟩ := h₁
  refine comp_core hh hcell hkind hx G hl hlen O fun D C s' ys k mC K lD lC nDC hD hmC hP => ?_
  have lt90 : @LT.lt Nat _ 90 s₁.heap.objs.size := G.t1.lt.2
  have hLs : env.locals < s₁.heap.objs.size := hm₁.lt
  have hLC : env.locals ≠ C := Nat.ne_of_lt (Nat.lt_of_lt_of_le hLs lC)
  have hLD : env.locals ≠ D := Nat.ne_of_lt (Nat.lt_of_lt_of_le hLs lD)
  have hL90 : env.locals ≠ 90 := Nat.ne_of_gt (Nat.lt_of_lt_of_le (by decide) hL)
  have hL97 : env.locals ≠ 97 := Nat.ne_of_gt (Nat.lt_of_lt_of_le (by decide) hL)
  have hm' : s'.heap.Ns env.locals m := let ⟨o, es, ep, e, r⟩ := hm₁; ⟨o, es, ep, K.keep _ _ hL90 hL97 e, r⟩
  show wpAny _ A (assign (.Name y py) env (.ref D)) _ _ _
  refine wpAny_assign_Name (wpAny_storeName_local hy hm' (fun h₂ hn₂ hs₂ => ?_) hp)
  replace hs₂ : Heap.SameBut env.locals s'.heap h₂ := hs₂
  refine ⟨mC, hmC.sameBut hs₂ (Ne.symm hLC), fun h₃ hs₃ => ?_⟩
  replace hs₃ : Heap.SameBut C h₂ h₃ := hs₃
  have h150C : @LE.le Nat _ 150 C := Nat.le_trans hL (Nat.le_trans (Nat.le_of_lt hLs) lC)
  refine hQ D _ ys k ⟨fun b o h1 h2 h3 e => ?_, fun g => ?_, K.gens, K.os⟩ (hn₂.sameBut hs₃ hLC) lD (hs₃.extBut _ _ nDC (hs₂.extBut _ _ (Ne.symm hLD) hD)) hP
  · exact hs₃.extBut _ _ (Nat.ne_of_lt (Nat.lt_of_lt_of_le (Heap.lt_size e) lC)) (hs₂.extBut _ _ h3 (K.keep b o h1 h2 e))
  · exact (K.gd g).low fun b o hb e => hs₃.extBut _ _ (Nat.ne_of_lt (Nat.lt_of_lt_of_le hb h150C)) (hs₂.extBut _ _ (Nat.ne_of_lt (Nat.lt_of_lt_of_le hb hL)) e)
end
end Mine
end

section
open PySem PySem.W PyProof.Rows PySem.Calls
set_option maxRecDepth 100000
namespace Mine

theorem LineIs.but {h h' : Heap} {a d : Addr} {mg : Int} {ws : List Str} {Ts : List Addr} {n : Nat} (x : LineIs h a mg ws d Ts n) {r : Addr} {o : Obj} (hr : h.get? r = some o) (ho : o.cls = .type "list" ∨ (o.cls = .ref 128 ∧ r ≠ a))
    (k : ∀ b ob, ob.cls ≠ .none → b ≠ r → h.get? b = some ob → h'.get? b = some ob) : LineIs h' a mg ws d Ts n := by
  have ne : ∀ {b ob}, h.get? b = some ob → ob.cls ≠ o.cls → b ≠ r := by
    rintro b ob e hc rfl
    rw [hr] at e
    cases e
    exact hc rfl
  have na : a ≠ r := by
    rcases ho with h1 | ⟨_, h2⟩
    · exact ne x.at_ (by rw [h1]; nofun)
    · exact Ne.symm h2
  have nc : ∀ T : String, T ≠ "list" → Value.type T ≠ o.cls := by
    intro T hT
    rcases ho with h1 | ⟨h1, _⟩
    · rw [h1]; intro e; injection e with e; exact hT e
    · rw [h1]; nofun
  exact ⟨k _ _ (by nofun) na x.at_, let ⟨es, q, t, e, r⟩ := x.dict; ⟨es, q, t, k _ _ (by nofun) (ne e (nc _ (by decide))) e, r⟩, x.len,
    fun i T y h1 h2 => let ⟨t1, t2, e⟩ := x.pair i T y h1 h2; ⟨t1, t2, k _ _ (by nofun) (ne e (nc _ (by decide))) e⟩⟩
theorem LineAt.but {h h' : Heap} {a : Addr} {mg : Int} {ws : List Str} (x : LineAt h a mg ws) {r : Addr} {o : Obj} (hr : h.get? r = some o) (ho : o.cls = .type "list" ∨ (o.cls = .ref 128 ∧ r ≠ a))
    (k : ∀ b ob, ob.cls ≠ .none → b ≠ r → h.get? b = some ob → h'.get? b = some ob) : LineAt h' a mg ws :=
  let ⟨d, Ts, n, y⟩ := x; ⟨d, Ts, n, y.but hr ho k⟩

/-- a line of which all parts lie above a bound -/
def LineOver (B : Addr) (h : Heap) (a : Addr) (mg : Int) (ws : List Str) : Prop := @LE.le Nat _ B a ∧ ∃ d Ts n, LineIs h a mg ws d Ts n ∧ @LE.le Nat _ B d ∧ ∀ T ∈ Ts, @LE.le Nat _ B T
theorem LineOver.at' {B : Addr} {h : Heap} {a : Addr} {mg : Int} {ws : List Str} (x : LineOver B h a mg ws) : LineAt h a mg ws := let ⟨_, d, Ts, n, y, _⟩ := x; ⟨d, Ts, n, y⟩
/-- nothing of the line is what was written -/
theorem LineOver.but {B : Addr} {h h' : Heap} {a : Addr} {mg : Int} {ws : List Str} (x : LineOver B h a mg ws) {r : Addr} (hr : @LT.lt Nat _ r B ∨ ∃ o, h.get? r = some o ∧ (o.cls = .type "list" ∨ (o.cls = .ref 128 ∧ r ≠ a)))
    (k : ∀ b ob, ob.cls ≠ .none → b ≠ r → h.get? b = some ob → h'.get? b = some ob) : LineOver B h' a mg ws := by
  obtain ⟨ha, d, Ts, n, y, hd, hT⟩ := x
  rcases hr with hr | ⟨o, e, c⟩
  · have ne : ∀ {b : Addr}, @LE.le Nat _ B b → b ≠ r := fun hb => Nat.ne_of_gt (Nat.lt_of_lt_of_le hr hb)
    refine ⟨ha, d, Ts, n, ⟨k _ _ (by nofun) (ne ha) y.at_, ?_, y.len, ?_⟩, hd, hT⟩
    · obtain ⟨es, q, t, e, r⟩ := y.dict
      exact ⟨es, q, t, k _ _ (by nofun) (ne hd) e, r⟩
    · intro i T z h1 h2
      obtain ⟨t1, t2, e⟩ := y.pair i T z h1 h2
      exact ⟨t1, t2, k _ _ (by nofun) (ne (hT T (List.mem_of_getElem? h1))) e⟩
  · exact ⟨ha, d, Ts, n, y.but e c k, hd, hT⟩

section
variable {prog : Program} {w : World} {A : Around} {E : Value → Shared → Prop} {s : Shared}

theorem mapSeq_pushL {d : Addr} {its : Array Value} {n : Nat} {x : Value} : Obj.mapSeq (·.push x) (lineObj d its n) = lineObj d (its.push x) (n + 1) := by
  simp [Obj.mapSeq]

theorem la_kind : builtinKind "list.append" = some .slot ∨ builtinKind "list.append" = some .method := .inr (by decide +kernel)
theorem la_split : splitId "list.append" = some ("list", "append") := by decide +kernel
theorem la_plain : plainId "list.append" = true := by decide +kernel

set_option maxHeartbeats 8000000 in
theorem push_code {R : Result → Shared → Prop} {a : Addr} {mg : Int} {ws : List Str} {x : Str} {t1 t2 : Tok}
    (hr : A.depth + 2 < recursionLimit) {B : Addr} (G : Gd w s.heap) (Ln : LineOver B s.heap a mg ws) (hB : @LE.le Nat _ B s.heap.objs.size) (h150 : @LE.le Nat _ 150 B) (hlen : ws.length ≤ 2 ^ 20)
    (h : ∀ s', Kx w a s s' → LineOver B s'.heap a mg (ws ++ [x]) → R (.ok (.ret .none)) s') :
    codeAny (model prog w) A (.call (.ref 72) ⟨[.ref a, .str " " t1, .str x t2], []⟩) R s := by
  have f := G.kin 72 _ (by rfl)
  refine codeAny_call_def (by omega) f rfl G.lim (codeRec_of G.kin (by kernel_rfl)) rfl (BindsTo.of_eq (binds := [(Str.ofString "self", .ref a), (Str.ofString "fws", .str " " t1), (Str.ofString "string", .str x t2)]) rfl) (by decide) (locs rfl) (fun h₁ hn hk => ?_)
  have G1 : Gd w h₁ := G.keeps hk
  obtain ⟨hBa, d, Ts, n, L0, hBd, hBT⟩ := Ln
  have h150 : @LE.le Nat _ 150 a := Nat.le_trans h150 hBa
  have hBh : @LE.le Nat _ B h₁.objs.size := Nat.le_trans hB (Nat.le_of_lt hn.lt)
  have L1 := L0.keep (fun b o _ e => hk b o e)
  obtain ⟨es, k, t, hd, hi, hes⟩ := L1.dict
  generalize s.heap.objs.size = L at hn ⊢
  clear f
  refine wpAny_execs_cons ?_
  refine wpAny_Expr ?_ ?q1 ?q2
  case q1 => rfl
  case q2 => rfl
  refine MethodCall_ ?_
  refine wpAny_Name (wpAny_loadName_local rfl rfl hn rfl ?_)
  refine meth_line G1.toG0 L1.at_ hd (f := .builtin "list.append") (tf := .type "method_descriptor") (by kernel_rfl) (by kernel_rfl) (by decide) (hes _ (by decide)) ?_
  refine callWith_method1 ?_ ?q1 ?q2
  case q1 => rfl
  case q2 => rfl
  refine spliced_more ?_ ?q3
  case q3 => rfl
  refine wpAny_Tuple_spliced ?_
  refine spliced_more ?_ ?q3
  case q3 => rfl
  refine wpAny_Name (wpAny_loadName_local rfl rfl hn rfl ?_)
  refine spliced_more ?_ ?q3
  case q3 => rfl
  refine wpAny_Name (wpAny_loadName_local rfl rfl hn rfl ?_)
  refine spliced_nil ?_
  refine ⟨Nat.le_trans (by show 2 ≤ 2 ^ 20; decide) sz20, ?_⟩
  refine spliced_nil ?_
  dsimp only
  generalize hT : h₁.objs.size = T
  have hT2 : (h₁.push { cls := Value.type "tuple", data := Data.seq #[Value.str " " t1, Value.str x t2] }).get? T = some (pairObj x t1 t2) := by rw [← hT]; exact Heap.get?_push_size _ rfl
  have k2 : ∀ b o, h₁.get? b = some o → (h₁.push { cls := Value.type "tuple", data := Data.seq #[Value.str " " t1, Value.str x t2] }).get? b = some o := fun b o e => Heap.get?_push_of_some _ e
  generalize h₁.push { cls := Value.type "tuple", data := Data.seq #[Value.str " " t1, Value.str x t2] } = h₂ at hT2 k2 ⊢
  have G2 : Gd w h₂ := G1.keeps k2
  have L2 := L1.keep (fun b o _ e => k2 b o e)
  refine call_list (nm := "append") G2.toG0 L2.at_ la_kind la_split la_plain PySem.F.entry_list_append (PySem.F.args_list_append_2 _ _) ?_
  show wpAny _ _ (updateSeq a (·.push (.ref T)) >>= fun _ => ret .none) _ _ _
  refine wpAny_bind ?_
  have hsz : (Ts.map Value.ref).toArray.size ≤ sizeLine := by
    rw [List.size_toArray, List.length_map, L2.len]
    exact Nat.le_trans hlen sz20
  refine wpAny_updateSeq L2.at_ rfl ?_ hsz (by rw [Array.size_push]; omega)
  refine wpAny_pure ⟨.none, rfl, ?_⟩
  refine wpAny_execs_nil ?_
  have sb : Heap.SameBut a h₂ (h₂.update a (Obj.mapSeq (·.push (.ref T)))) := Heap.SameBut.update ..
  have hat : (h₂.update a (Obj.mapSeq (·.push (.ref T)))).get? a = some (lineObj d ((Ts ++ [T]).map Value.ref).toArray (n + 1)) := by
    rw [Heap.get?_update_self _ L2.at_ (by rw [mapSeq_pushL]; rfl), mapSeq_pushL]
    simp
  generalize h₂.update a (Obj.mapSeq (·.push (.ref T))) = h₃ at sb hat ⊢
  refine h _ ?_ ⟨hBa, d, Ts ++ [T], n + 1, ⟨hat, ?_, ?_, ?_⟩, hBd, ?_⟩
  · refine Kx.trans (s' := { s with heap := h₂ }) (Kp.of (tk := s.toks) fun b o e => k2 b o (hk b o e)).x ?_
    exact Kx.of (s := { s with heap := h₂ }) h150 sb
  · have nd : d ≠ a := by
      rintro rfl
      have := L1.at_.symm.trans hd
      injection this with this
      injection this with this
      cases this
    exact ⟨es, k, t, sb.extBut _ _ nd (k2 _ _ hd), hi, hes⟩
  · rw [List.length_append, List.length_append, L2.len]; rfl
  · have na : ∀ {b : Addr} {o}, h₂.get? b = some o → o.cls ≠ .ref 128 → b ≠ a := by
      rintro b o e hc rfl
      rw [L2.at_] at e
      cases e
      exact hc rfl
    intro i T' y e1 e2
    have hl := L2.len
    by_cases hi : i < ws.length
    · rw [List.getElem?_append_left (by omega)] at e1
      rw [List.getElem?_append_left hi] at e2
      obtain ⟨u1, u2, e⟩ := L2.pair i T' y e1 e2
      exact ⟨u1, u2, sb.extBut _ _ (na e (by nofun)) e⟩
    · rw [List.getElem?_append_right (by omega)] at e1 e2
      have hz : i - ws.length = 0 := by
        obtain ⟨hlt, _⟩ := List.getElem?_eq_some_iff.mp e2
        have : ([x] : List Str).length = 1 := rfl
        omega
      rw [hz] at e2
      rw [hl, hz] at e1
      cases e1
      cases e2
      exact ⟨t1, t2, sb.extBut _ _ (na hT2 (by nofun)) hT2⟩
  · intro T' hT'
    rcases List.mem_append.mp hT' with hT' | hT'
    · exact hBT T' hT'
    · rw [List.mem_singleton.mp hT', ← hT]; exact hBh
end
end Mine
end

section
open PySem PySem.W PyProof.Rows PySem.Calls Builtin Builtin.ObjectAttr Builtin.Getset_descriptor
set_option maxRecDepth 100000
namespace Mine

theorem a_sa (w : World) : findIn (KK w) (.ref 128) "__setattr__" = some (some (.builtin "object.__setattr__")) := by kernel_rfl
theorem a_taker (w : World) : takerIn (KK w) 128 "_initial_size" = some none := by kernel_rfl
theorem a_find_i (w : World) : findIn (KK w) (.ref 128) "_initial_size" = some none := by kernel_rfl
theorem a_cls (w : World) : ∃ cd, clsIn (KK w) 128 = some cd ∧ cd.mro = [.ref 128, .type "list", .type "object"] ∧ cd.hasDict = true ∧ cd.hasDel = false ∧ cd.abstract = false := ⟨_, by rfl, by rfl, by rfl, by rfl, by rfl⟩
theorem refuse_list (self : Value) : refuseLoop self "__setattr__" [.type "list", .type "object"] = pure () := by kernel_rfl

section
variable {prog : Program} {w : World} {A : Around} {E : Value → Shared → Prop} {s : Shared} {a d : Addr} {items : Array Value} {n : Nat}

theorem set_line {v : Value} {Q : Unit → Shared → Prop} (G : G0 w s.heap) (e : s.heap.get? a = some (lineObj d items n)) (hd : s.heap.get? d = some (dictOf [] 0))
    (h : ∀ h' q t, Heap.SameBut d s.heap h' → h'.get? d = some (dictOf [⟨q, .str "_initial_size" t, v⟩] 1) → Q () { s with heap := h', toks := s.toks + 2 }) :
    wpAny (model prog w) A (setAttr (.ref a) "_initial_size" v) Q E s := by
  obtain ⟨hp, gs, dr, tk, os⟩ := s
  have SF := PySem.F.store_object
  have I : W.InstAt hp a (lineObj d items n) 128 (some (dictOf [] 0)) := ⟨e, rfl, rfl, hd⟩
  obtain ⟨cd, hc, hmro, hdict, _, _⟩ := a_cls w
  have ne : cd.mro.isEmpty = false := by rw [hmro]; rfl
  have sub : Looks (model prog w) hp (isInstance (.ref a) (.type "object")) true := I.type.andThen (looks_mroIn G.kin (by unfold mroIn; rw [hc, Option.bind_some, if_neg (by rw [ne]; decide), hmro]; rfl))
  refine set_plain (s := ⟨hp, gs, dr, tk, os⟩) G.kin I (a_sa w) ?_
  refine codeAny_call_builtin SF.slot.plain SF.entry (@check_slot (model prog w) _ _ ⟨hp, gs, dr, tk + 1, os⟩ "object.__setattr__" "object" "__setattr__" (.ref a) [.str "_initial_size" tk, v] [] _ SF.kind SF.split sub (SF.args (.ref a) (.str "_initial_size" tk) v) ?_)
  have hm : Looks (model prog w) hp (mroOf (.ref 128)) cd.mro := (looks_clsIn G.kin hc).andThen .now
  have L3 : Looks (model prog w) hp (storeTaker? none) none := .now
  rw [osa_eq, refuse_eq]
  refine wpAny_bind (wpAny_bind (I.type.at (wpAny_bind (hm.at ?_))))
  rw [hmro, refuseLoop_ref, refuse_list]
  refine wpAny_pure (wpAny_bind (I.type.at (wpAny_bind ((looks_findIn G.kin (a_find_i w)).at (wpAny_bind (L3.at ?_))))))
  dsimp only
  refine wpAny_bind (wpAny_pure (wpAny_bind (wpAny_bind (wpAny_loadPart e (wpAny_bind ((looks_clsIn G.kin hc).at ?_))))))
  rw [hdict]
  refine wpAny_pure (a := some d) (wpAny_bind (wpAny_pure (wpAny_bind ?_)))
  unfold nsSet
  refine wpAny_bind (wpAny_bind (wpAny_askSetting (wpAny_pure (wpAny_bind (wpAny_mkText (wpAny_bind (wpAny_loadPart hd ?_)))))))
  have D' := Heap.get?_update_self (Obj.putName "_initial_size" (PyData.keyHash w.params "_initial_size") (.str "_initial_size" (tk + 1)) v) hd (by rw [putName_dict]; rfl)
  rw [putName_dict] at D'
  dsimp only [dictOf]
  have c : (!([] : List DictEntry).toArray.any (·.key.isStr "_initial_size") && ([] : List DictEntry).toArray.any (·.refKey)) = false := by simp
  rw [aRefKeyMayBeTheName_at, c]
  refine wpAny_updatePart hd ?_
  refine wpAny_bind (wpAny_lookBehind D' (by
    refine pastItsLine_dict ?_
    rw [List.size_toArray, sizeLine_eq]
    show 1 ≤ _
    omega) ?_)
  refine wpAny_pure ?_
  exact h _ _ _ (Heap.SameBut.update ..) D'

theorem ln_kind : builtinKind "list.__new__" = some .builtinFn := by decide +kernel
theorem ln_split : splitId "list.__new__" = some ("list", "__new__") := by decide +kernel
theorem ln_args (x y : Value) : (match Manifest.signature? "list.__new__" with | some sig => Bind.checkArgs "list.__new__" sig ⟨[x, y], []⟩ | none => pure ()) = pure () := by kernel_rfl

theorem a_obj (w : World) : ∃ oc od cd sl, (KK w).lookup 128 = some ⟨oc, od, .cls cd, sl⟩ ∧ clsIn (KK w) 128 = some cd ∧ cd.mro = [.ref 128, .type "list", .type "object"] ∧ cd.hasDel = false ∧ cd.hasDict = true ∧ (sl.toList[4]?).join = some (.builtin "list.__new__") :=
  ⟨_, _, _, _, by rfl, by rfl, by rfl, by rfl, by rfl, by rfl⟩

theorem made_line {h : Heap} (G : G0 w h) : Looks (model prog w) h (Bind.madeBy (.ref 128)) (some "list.__new__") := by
  obtain ⟨oc, od, cd, sl, ho, hc, hmro, _, _, hs⟩ := a_obj w
  have hm : Looks (model prog w) h (mroOf (.ref 128)) cd.mro := (looks_clsIn G.kin hc).andThen .now
  intro A Q E s k q
  unfold Bind.madeBy
  refine wpAny_bind (hm A _ E s k ?_)
  rw [hmro, List.forIn_cons]
  refine wpAny_bind (wpAny_bind (wpAny_bind (wpAny_bind (wpAny_loadPart (k _ _ (G.kin _ _ ho)) (wpAny_pure ?_)))))
  dsimp only
  rw [← Array.getElem?_toList, hs]
  exact wpAny_pure (wpAny_pure (wpAny_pure q))
theorem base_line {h : Heap} (G : G0 w h) : Looks (model prog w) h (Bind.staticBase (.ref 128)) (.ref 128) := by
  obtain ⟨oc, od, cd, sl, ho, hc, hmro, _, _, hs⟩ := a_obj w
  have hm : Looks (model prog w) h (mroOf (.ref 128)) cd.mro := (looks_clsIn G.kin hc).andThen .now
  intro A Q E s k q
  unfold Bind.staticBase
  refine wpAny_bind (hm A _ E s k ?_)
  rw [hmro, List.forIn_cons]
  exact wpAny_bind (wpAny_bind (wpAny_bind (made_line G A _ E s k (wpAny_pure (wpAny_pure (wpAny_pure q))))))

theorem isType_line {M : Model} {h : Heap} (G : G0 w h) : Looks M h (isType (.ref 128)) true := by
  obtain ⟨oc, od, cd, sl, ho, hc, hmro, _, _, hs⟩ := a_obj w
  exact (Looks.ld (part := none) (G.kin _ _ ho)).andThen .now

theorem new_obj {R : Result → Shared → Prop} {x : Value} (G : G0 w s.heap)
    (h : R (.ok (.ret (.ref (s.heap.objs.size + 1)))) { s with heap := (s.heap.push emptyDict).push (lineObj s.heap.objs.size #[] 0) }) :
    codeAny (model prog w) A (.call (.builtin "list.__new__") ⟨[.ref 128, x], []⟩) R s := by
  obtain ⟨hp, gs, dr, tk, os⟩ := s
  obtain ⟨oc, od, cd, sl, ho, hc, hmro, hdel, hdict, hs⟩ := a_obj w
  have hm := made_line (prog := prog) G
  have hb := base_line (prog := prog) G
  have ht := isType_line (M := model prog w) G
  have hsub : Looks (model prog w) hp (isSubtype (.ref 128) (.type "list")) true := looks_subIn G.kin (by rfl : subIn (KK w) (.ref 128) (.type "list") = some true)
  have hC := G.kin _ _ ho
  refine codeAny_of_tree ?_
  show wpAny _ A.in1 (do checkBuiltinCall "list.__new__" ⟨[.ref 128, x], []⟩; again (.builtin "list.__new__" ⟨[.ref 128, x], []⟩)) _ _ _
  simp only [checkBuiltinCall, ln_kind, ln_split]
  have args := ln_args (.ref 128) x
  repeat (first | simp only [bne_self_eq_false, Bool.false_eq_true, if_false, Bool.not_true] | lk)
  refine ⟨plainId_quiet F.plain_list_new _, codeAny_builtin_stack F.entry_list_new rfl fun p st => ?_⟩
  rw [Around.under_plainId F.plain_list_new _]
  have hown := owner_list_new
  simp only [hown]
  repeat (first | simp only [Bool.false_eq_true, if_false, Bool.not_true] | lk)
  refine wpAny_load (Heap.get?_push_of_some _ (Heap.get?_push_of_some _ hC)) (wpAny_pure ?_)
  rw [hdel, if_neg (by decide)]
  refine wpAny_pure (wpAny_pure ?_)
  rw [Heap.size_push]
  exact h

/-- the object that super() gives -/
abbrev supObj (a : Addr) : Obj := { cls := .type "super", dict := none, data := .fields #[.ref 128, .ref a, .ref 128], slots := #[] }
abbrev mwObj (a : Addr) : Obj := { cls := .type "method-wrapper", data := .fields #[.builtin "list.__init__", .ref a] }

theorem wd_slot : Slot "wrapper_descriptor" "__get__" "wrapper_descriptor.__get__" := .of (owner := "wrapper_descriptor") (n := "__get__") (by rw [typeLookup_type, builtinLookup_eq_fast]; kernel_rfl) (by decide +kernel) (by decide +kernel) (by decide +kernel)
  (by first | exact .inl (by decide +kernel) | exact .inr (by decide +kernel)) (by rw [isSubtype_type]; kernel_rfl)
theorem wd_entry : entryFor table "wrapper_descriptor.__get__" = some Builtin.«wrapper_descriptor.__get__» := entryFor_of_tree (by kernel_rfl)
theorem wd_args (a b c : Value) : argsOk "wrapper_descriptor.__get__" ⟨[a, b, c], []⟩ := by unfold argsOk; kernel_rfl
theorem wd_run (a : Addr) : Builtin.«wrapper_descriptor.__get__» ⟨[.builtin "list.__init__", .ref a, .ref 128], []⟩ =
    ((isInstance (.ref a) (.type "list") >>= fun b => if !b then (do
      rule "descr.get.wrong-instance"
      raiseError "TypeError" s!"descriptor '{(Str.ofString "__init__").toString}' for '{← typeName (.type "list")}' objects doesn't apply to a '{← typeNameOf (.ref a)}' object") else pure ()) >>= fun _ => newFields "method-wrapper" [.builtin "list.__init__", .ref a] >>= fun v => ret v) := by kernel_rfl
theorem wd_type : typeOf (.builtin "list.__init__") = pure (.type "wrapper_descriptor") := by show builtinType _ = _; rw [builtinType_eq_fast]; kernel_rfl
theorem along_init (w : World) : alongIn (KK w) "__init__" [.type "list", .type "object"] = some (some (.builtin "list.__init__")) := by kernel_rfl

theorem no_third (w : World) : nsIn (KK w) cStatics "thirdparty.any" = some none := by kernel_rfl

end
end Mine
end

section
open PySem PySem.W PyProof.Rows PySem.Calls Builtin Builtin.ObjectAttr Builtin.Getset_descriptor
set_option maxRecDepth 100000
namespace Mine
section
variable {prog : Program} {w : World} {A : Around} {E : Value → Shared → Prop} {s : Shared} {a d : Addr} {items : Array Value} {n : Nat}
theorem wd_kind : builtinKind "wrapper_descriptor.__get__" = some .slot := by decide +kernel
theorem wd_split : splitId "wrapper_descriptor.__get__" = some ("wrapper_descriptor", "__get__") := by decide +kernel

set_option maxHeartbeats 400000 in
theorem sup_ga {so : Addr} {tk : Tok} {Q : Fin → Shared → Prop} (G : G0 w s.heap) (e : s.heap.get? a = some (lineObj d items n)) (hne : a ≠ 128) (hso : s.heap.get? so = some (supObj a))
    (hq : Q (.done (.ret (.ref s.heap.objs.size))) { s with heap := s.heap.push (mwObj a) }) :
    wpAny (model prog w) A (Builtin.«super.__getattribute__» ⟨[.ref so, .str "__init__" tk], []⟩) Q E s := by
  obtain ⟨hp, gs, dr, t, os⟩ := s
  dsimp only at G e hso hq
  have hno : Looks (model prog w) hp (opaqueClassAbove (.ref 128)) none := looks_opaque G.kin (no_third w)
  obtain ⟨cd, hc, hmro, _, _, _⟩ := a_cls w
  have hC : Looks (model prog w) hp (mroOf (.ref 128)) [.ref 128, .type "list", .type "object"] := hmro ▸ (looks_clsIn G.kin hc).andThen .now
  have hl : ([.ref 128, .type "list", .type "object"].dropWhile (· != Value.ref 128)).drop 1 = [.type "list", .type "object"] := by rfl
  have L4 := ln_isList (M := model prog w) G e
  have hdt : (supObj a).data = .fields #[.ref 128, .ref a, .ref 128] := rfl
  have f0 : (#[.ref 128, .ref a, .ref 128] : Array Value)[0]? = some (.ref 128) := rfl
  have f1 : (#[.ref 128, .ref a, .ref 128] : Array Value)[1]? = some (.ref a) := rfl
  have f2 : (#[.ref 128, .ref a, .ref 128] : Array Value)[2]? = some (.ref 128) := rfl
  have hlk := wd_slot.lookup
  have hn0 : (Value.ref 128 == Value.none) = false := rfl
  have hne' : (Value.ref a == Value.ref 128) = false := by simp [hne]
  have hn : ((Str.ofString "__init__") == ("__class__" : Str)) = false := by decide
  unfold Builtin.«super.__getattribute__»
  refine wpAny_bind (wpAny_of_eq (a := some (Str.ofString "__init__")) (by rfl) ?_)
  dsimp only
  simp only [Option.isNone_some, Bool.false_eq_true, if_false]
  refine wpAny_bind (wpAny_of_eq (a := some (Str.ofString "__init__")) (by rfl) ?_)
  dsimp only
  refine wpAny_bind (wpAny_field hso hdt f0 ?_)
  refine wpAny_bind (wpAny_field hso hdt f1 ?_)
  refine wpAny_bind (wpAny_field hso hdt f2 ?_)
  simp only [hn, hn0, Bool.or_false, Bool.false_eq_true, if_false]
  refine wpAny_bind (ks_wpAny_notOpaque hno ?_)
  rw [if_neg (show ¬ ((Value.ref 128 == Value.type "module") = true) from Bool.false_ne_true)]
  refine wpAny_bind (hC.at ?_)
  rw [hl]
  have lo : Looks (model prog w) hp (classOwn (.type "list") "__init__") (some (.builtin "list.__init__")) := looks_ownIn G.kin (by kernel_rfl)
  rw [List.forIn_cons]
  refine wpAny_bind (wpAny_bind (wpAny_bind (lo.at ?_)))

  dsimp only
  rw [wd_type]
  refine wpAny_bind (wpAny_pure ?_)
  rw [hlk]
  refine wpAny_bind (wpAny_pure ?_)
  dsimp only
  simp only [hne', Bool.false_eq_true, if_false]
  refine wpAny_bind (wpAny_holding ?_)
  refine wpAny_call (codeAny_call_builtin wd_slot.plain wd_entry ?_)
  have hin : Looks (model prog w) hp (isInstance (.builtin "list.__init__") (.type "wrapper_descriptor")) true := by
    unfold isInstance
    rw [wd_type]
    exact Looks.of_pure (show isSubtype (.type "wrapper_descriptor") (.type "wrapper_descriptor") = pure true by rw [isSubtype_type]; kernel_rfl)
  refine @check_slot (model prog w) _ _ ⟨hp, gs, dr, t, os⟩ "wrapper_descriptor.__get__" "wrapper_descriptor" "__get__" (.builtin "list.__init__") [.ref a, .ref 128] [] _ wd_kind wd_split hin (wd_args _ _ _) ?_
  rw [wd_run]
  refine wpAny_bind (wpAny_bind (L4.at ?_))
  simp only [Bool.not_true, Bool.false_eq_true, if_false]
  refine wpAny_pure (wpAny_bind ?_)
  show wpAny _ _ (newObj (.type "method-wrapper") (.fields #[.builtin "list.__init__", .ref a])) _ _ _
  refine wpAny_newObj_type ?_ (by size_fits)
  refine wpAny_pure ?_
  refine wpAny_bind (wpAny_pure (wpAny_pure (wpAny_pure (wpAny_pure ?_))))
  exact hq

/-- super().__init__, looked up -/
theorem sup_meth {so : Addr} {pl : Sem Bool} {Q : Value × List Value → Shared → Prop} (G : G0 w s.heap) (e : s.heap.get? a = some (lineObj d items n)) (hne : a ≠ 128) (hso : s.heap.get? so = some (supObj a))
    (hq : Q (.ref s.heap.objs.size, []) { s with heap := s.heap.push (mwObj a), toks := s.toks + 1 }) :
    wpAny (model prog w) A (getMethod (.ref so) "__init__" pl) Q E s := by
  obtain ⟨hp, gs, dr, t, os⟩ := s
  dsimp only at G e hso hq
  have hlk := F.ks_slot_super_ga.lookup
  have hcan := F.ks_canon_super_ga
  have hT : ∀ t', (⟨hp, gs, dr, t', os⟩ : Shared).TypeIs (.ref so) "super" := fun _ => ⟨_, hso, rfl⟩
  unfold getMethod
  refine wpAny_bind (wpAny_specialOf (hT _) hlk ?_)
  show wpAny _ _ (if (Manifest.canonical "super.__getattribute__" != "object.__getattribute__") = true then _ else _) _ _ _
  rw [if_pos hcan]
  unfold getAttr getAttrBy
  refine wpAny_bind (wpAny_bind (wpAny_mkText (wpAny_holding (wpAny_bind (wpAny_typeOf (hT _) (wpAny_bind (wpAny_of_eq hlk ?_)))))))
  show wpAny _ _ (getAttrByItsOwn (.ref so) (.str "__init__" t) (.type "super") (.builtin "super.__getattribute__") true false) _ _ _
  unfold getAttrByItsOwn hookBefore callGetattribute boundAndCalled
  refine wpAny_bind (wpAny_of_eq (show (if onTheHeap (.type "super") then typeLookup (.type "super") "__getattr__" else pure none) = pure none from rfl) ?_)
  refine wpAny_bind (wpAny_attempt (wpAny_holding ?_))
  show wpAny _ _ (bindSpecial (.builtin "super.__getattribute__") (.ref so) >>= _) _ _ _
  refine wpAny_bind (wpAny_of_eq (F.ks_slot_super_ga.bind _) ?_)
  refine wpAny_mono (Q := fun v s' => v = .ref hp.objs.size ∧ s' = ⟨hp.push (mwObj a), gs, dr, t + 1, os⟩) (E := fun _ _ => False)
    (wpAny_call_entry F.ks_slot_super_ga (hT _) F.ks_entry_super_ga (sup_ga (s := ⟨hp, gs, dr, t + 1, os⟩) G e hne hso ⟨_, rfl, rfl, rfl⟩) (F.ks_gaArgs_super _ _)) (fun v s' hv => ?_) fun _ _ z => z.elim
  obtain ⟨rfl, rfl⟩ := hv
  exact wpAny_pure (wpAny_pure hq)

theorem li_args (x : Value) : (checkBoundCall "list.__init__" ⟨[x], []⟩) = pure () := by kernel_rfl
theorem li_entry : entryFor table "list.__init__" = some Builtin.«list.__init__» := entryFor_of_tree (by kernel_rfl)

/-- the bound list.__init__, called -/
theorem mw_call {R : Result → Shared → Prop} {mw : Addr} (e : s.heap.get? a = some (lineObj d #[] 0)) (hmw : s.heap.get? mw = some (mwObj a))
    (h : ∀ h' n, Heap.SameBut a s.heap h' → h'.get? a = some (lineObj d #[] n) → R (.ok (.ret .none)) { s with heap := h' }) :
    codeAny (model prog w) A (.call (.ref mw) ⟨[], []⟩) R s := by
  refine codeAny_of_tree ?_
  show wpAny _ A.in1 (callAny (.ref mw) _) _ _ _
  unfold callAny
  refine wpAny_bind (wpAny_load hmw ?_)
  show wpAny _ _ (checkBoundCall "list.__init__" ⟨[.ref a], []⟩ >>= fun _ => again (.builtin "list.__init__" ⟨[.ref a], []⟩)) _ _ _
  rw [li_args]
  refine wpAny_bind (wpAny_pure (wpAny_pure ⟨plainId_quiet (by decide +kernel) _, codeAny_builtin li_entry ?_⟩))
  rw [Around.under_plainId (by decide +kernel) _]
  show wpAny _ _ (Builtin.List.listItems (.ref a) >>= fun old => Builtin.List.listUpdate (.ref a) (fun _ => #[]) >>= fun _ => letGo old.toList.reverse >>= fun _ => ret .none) _ _ _
  unfold Builtin.List.listItems
  refine wpAny_bind (wpAny_bind (wpAny_seqItems e rfl (wpAny_pure ?_)))
  refine wpAny_bind ?_
  show wpAny _ _ (updateSeq a (fun _ => #[])) _ _ _
  refine wpAny_updateSeq e rfl ?_ (by size_fits) (by size_fits)
  refine wpAny_bind (wpAny_letGo ?_)
  refine wpAny_pure ?_
  refine h _ 0 (Heap.SameBut.update ..) ?_
  exact Heap.get?_update_self _ e (by rfl)


end
end Mine
end

section
open PySem PySem.W PyProof.Rows PySem.Calls
set_option maxRecDepth 100000
namespace Mine
section
variable {prog : Program} {w : World} {A : Around} {E : Value → Shared → Prop} {s : Shared} {a d : Addr}

theorem g_super (w : World) : globK (KK w) "super" = none := by kernel_rfl
theorem b_super : bootBuiltins "super" = some (.type "super") := by kernel_rfl

/-- what super() asks of the program -/
structure Pg (prog : Program) : Prop where
  file : ((prog.main.file : Str) == Str.ofString "/claim/cut.py") = true
  nosuper : (prog.main.scope.names.lookup (Str.ofString "super")).isSome = false

theorem c64 (w : World) : ∃ oc vs t, (KK w).lookup 64 = some oc ∧ oc.data = .fields vs ∧ vs[2]? = some (.str (Str.ofString "/claim/cut.py") t) := ⟨_, _, _, by rfl, rfl, by rfl⟩
theorem cell52 (w : World) : ∃ oc, (KK w).lookup 52 = some oc ∧ oc.data = .cell (some (.ref 128)) := ⟨_, by rfl, rfl⟩
theorem a_sub (w : World) : mroIn (KK w) 128 (.ref 128) = some true := by rfl

theorem init_code {R : Result → Shared → Prop} {mg : Int} {t : Tok}
    (P : Pg prog) (hr : A.depth + 2 < recursionLimit) (G : Gd w s.heap) (e : s.heap.get? a = some (lineObj d #[] 0)) (hd : s.heap.get? d = some (dictOf [] 0)) (ha : @LE.le Nat _ 150 a) (hd150 : @LE.le Nat _ 150 d)
    (h : ∀ h' tk, (∀ b o, b ≠ a → b ≠ d → s.heap.get? b = some o → h'.get? b = some o) → (∃ n, LineIs h' a mg [] d [] n) → R (.ok (.ret .none)) { s with heap := h', toks := tk }) :
    codeAny (model prog w) A (.call (.ref 65) ⟨[.ref a, .int mg t], []⟩) R s := by
  have f := G.kin 65 _ (by rfl)
  refine ks_codeAny_call_defAt (by omega) f rfl G.lim (codeRec_of G.kin (by kernel_rfl)) rfl (binds := [(Str.ofString "self", .ref a), (Str.ofString "initial_size", .int mg t)]) (kp_binds G.kin fun S => by kernel_rfl) (by decide) (locs rfl) (fun h₁ hn hk => ?_)
  have G1 : Gd w h₁ := G.keeps hk
  have e1 := hk _ _ e
  have hd1 := hk _ _ hd
  refine ks_wpAt_execs_cons ?_
  refine ks_wpAt_Assign_Attr ?_ ?q1
  case q1 => rfl
  refine wpAt_of_wpAny (wpAny_Name (wpAny_loadName_local rfl rfl hn rfl ?_))
  refine wpAny_Name (wpAny_loadName_local rfl rfl hn rfl ?_)
  refine set_line G1.toG0 e1 hd1 fun h₂ q t₂ hs₂ hd₂ => ?_
  have had : a ≠ d := by
    rintro rfl
    rw [e] at hd
    injection hd with hd
    injection hd with hd
    cases hd
  have e2 := hs₂.extBut _ _ had e1
  have ha128 : a ≠ 128 := Nat.ne_of_gt (Nat.lt_of_lt_of_le (by decide) ha)
  have G2 : Gd w h₂ := G1.low fun b o hb e => hs₂.extBut b o (Nat.ne_of_lt (Nat.lt_of_lt_of_le hb hd150)) e
  have hdL : d ≠ s.heap.objs.size := Nat.ne_of_lt (Heap.lt_size hd)
  have hn2 := hn.sameBut hs₂ (Ne.symm hdL)
  obtain ⟨oc64, vs64, tc64, k64, dat64, fl64⟩ := c64 w
  obtain ⟨oc52, k52, dat52⟩ := cell52 w
  obtain ⟨oD, odD, cdD, slD, kD, hcD, hmroD, _, _, _⟩ := a_obj w
  refine ks_wpAt_execs_cons ?_
  refine ks_wpAt_Expr_any ?_ ?q1 ?q2
  case q1 => rfl
  case q2 => rfl
  refine ks_wpAt_MethodCall ?_
  refine ks_wpAt_super_base (cc := 64) (f := 65) rfl rfl (by decide) rfl (G2.kin _ _ (by rfl)) rfl rfl rfl (G2.kin _ _ k64) dat64 fl64 P.file P.nosuper ?_
  refine ks_loadName_global rfl rfl ?_
  obtain ⟨mb, hmb, hbv⟩ := G2.b
  refine loadGlobal_builtin (globK_ns G2.toG0) (g_super w) hmb ((hbv _ (by decide)).trans b_super) ⟨rfl, ?_⟩
  refine wpAny_loadName_free rfl rfl rfl ⟨_, G2.kin _ _ k52, dat52⟩ ?_
  refine wpAny_loadName_local rfl rfl hn2 rfl ?_
  refine ks_wpAny_isType_cls (G2.kin _ _ kD) rfl ⟨rfl, ?_⟩
  refine ks_wpAny_call_super (G2.kin _ _ kD) rfl e2 rfl (fun c h => by cases h) (looks_mroIn G2.kin (a_sub w)) (fun h₃ hso hk₃ => ?_)
  have G3 : Gd w h₃ := G2.keeps hk₃
  have e3 := hk₃ _ _ e2
  refine sup_meth G3.toG0 e3 ha128 hso ?_
  generalize hmw : h₃.objs.size = mw
  have hmw4 : (h₃.push (mwObj a)).get? mw = some (mwObj a) := by rw [← hmw]; exact Heap.get?_push_size _ rfl
  have hk4 : ∀ b o, h₃.get? b = some o → (h₃.push (mwObj a)).get? b = some o := fun b o e => Heap.get?_push_of_some _ e
  have e4 := hk4 _ _ e3
  refine callWith_of (P := fun h => h.get? mw = some (mwObj a)) rfl (fun h hm => ⟨.machine, .inr (.inl rfl), (Looks.ld (part := none) hm).andThen .now⟩) ?_
  refine evalArgs_nil3 ⟨hmw4, ?_⟩
  refine wpAny_call (mw_call (a := a) e4 hmw4 fun h₅ n₅ hs₅ e5 => ?_)
  refine wpAt_of_wpAny (wpAny_execs_nil ?_)
  refine h _ _ ?_ ⟨n₅, e5, ?_, rfl, fun i T x h1 h2 => by cases h1⟩
  · intro b o h1 h2 hb
    exact hs₅.extBut _ _ h1 (hk4 _ _ (hk₃ _ _ (hs₂.extBut _ _ h2 (hk _ _ hb))))
  · refine ⟨_, _, t, hs₅.extBut _ _ (Ne.symm had) (hk4 _ _ (hk₃ _ _ hd₂)), ?_, ?_⟩
    · unfold getL
      rfl
    · intro x hx
      unfold getL
      have : (Value.str (Str.ofString "_initial_size") t₂).isStr x = false := by
        show (Str.ofString "_initial_size" == x) = false
        exact beq_false_of_ne (Ne.symm hx)
      rw [List.find?_cons, this]
      rfl

theorem a_init (w : World) : findIn (KK w) (.ref 128) "__init__" = some (some (.ref 65)) := by kernel_rfl
theorem a_fn (w : World) : typeIn (KK w) (.ref 65) = some (.type "function") := by kernel_rfl
theorem a_call (w : World) : specialIn (KK w) (.ref 128) "__call__" = some (some (.builtin "type.__call__")) := by kernel_rfl
theorem a_inst (w : World) : instIn (KK w) (.ref 128) (.type "type") = some true := by rfl

theorem tc_weight (mg : Int) (t : Tok) : Code.weight (.builtin "type.__call__" ⟨[.ref 128, .int mg t], []⟩) = 1 := by kernel_rfl

/-- _Accumulator(margin) -/
theorem new_line {R : Result → Shared → Prop} {mg : Int} {t : Tok}
    (P : Pg prog) (hr : A.depth + 3 < recursionLimit) (G : Gd w s.heap) (hz : @LE.le Nat _ 150 s.heap.objs.size)
    (h : ∀ s' x, Kp w s s' → LineOver s.heap.objs.size s'.heap x mg [] → R (.ok (.ret (.ref x))) s') :
    codeAny (model prog w) A (.call (.ref 128) ⟨[.int mg t], []⟩) R s := by
  obtain ⟨hp, gs, dr, tk, os⟩ := s
  dsimp only at G hz h
  obtain ⟨oc, od, cd, sl, ho, hc, hmro, hdel, hdict, hs⟩ := a_obj w
  have hC := G.kin _ _ ho
  have call : Looks (model prog w) hp (specialOf (.ref 128) "__call__") (some (.builtin "type.__call__")) := looks_specialIn G.kin (a_call w)
  have typ : Looks (model prog w) hp (isInstance (.ref 128) (.type "type")) true := looks_instIn G.kin (a_inst w)
  have made := made_line (prog := prog) G.toG0
  have e4 : cd.mro.isEmpty = false := by rw [hmro]; rfl
  refine codeAny_of_tree ?_
  show wpAny _ _ (callAny (.ref 128) _) _ _ _
  refine nd_load hC ?_
  show wpAny _ _ (callAny.viaDunder (.ref 128) _) _ _ _
  unfold callAny.viaDunder
  refine wpAny_bind (call.at ?_)
  dsimp only
  rw [tc_bind]
  refine wpAny_bind (wpAny_pure (wpAny_bind (wpAny_pure ?_)))
  refine wpAny_pure (a := PySem.Fin.again (.call (.builtin "type.__call__") ⟨[.ref 128, .int mg t], []⟩)) (And.intro rfl ?_)
  refine codeAny_call_builtin_at (Code.quiet_builtin _ (by decide +kernel)) entry_typeCall (check_slot tc_kind tc_split typ (tc_args _ _ _) ?_)
  unfold Builtin.«type.__call__»
  have hm : Looks (model prog w) hp (mroOf (.ref 128)) cd.mro := ((Looks.ld (part := none) hC).andThen .now).andThen .now
  repeat (first | simp only [e4, Bool.false_eq_true, if_false] | with_reducible refine wpAny_call ?_ | lk)
  refine new_obj (s := ⟨hp, gs, dr, tk, os⟩) G.toG0 ?_
  dsimp only
  generalize hD : hp.objs.size = D
  have gd : ((hp.push emptyDict).push (lineObj D #[] 0)).get? D = some (dictOf [] 0) := Heap.get?_push_of_some _ (by rw [← hD]; exact Heap.get?_push_size _ rfl)
  have gx : ((hp.push emptyDict).push (lineObj D #[] 0)).get? (D + 1) = some (lineObj D #[] 0) := by
    have : D + 1 = (hp.push emptyDict).objs.size := by rw [Heap.size_push, hD]
    rw [this]
    exact Heap.get?_push_size _ rfl
  have k : ∀ b o, hp.get? b = some o → ((hp.push emptyDict).push (lineObj D #[] 0)).get? b = some o := fun b o e => Heap.get?_push_of_some _ (Heap.get?_push_of_some _ e)
  generalize ((hp.push emptyDict).push (lineObj D #[] 0)) = h₂ at gd gx k
  have G2 : Gd w h₂ := G.keeps k
  have i1 : Looks (model prog w) h₂ (isInstance (.ref (D + 1)) (.ref 128)) true := (ln_type gx).andThen (looks_subIn G2.kin (by rfl : subIn (KK w) (.ref 128) (.ref 128) = some true))
  have I : W.InstAt h₂ (D + 1) (lineObj D #[] 0) 128 (some (dictOf [] 0)) := ⟨gx, rfl, rfl, gd⟩
  refine wpAny_bind (i1.at ?_)
  simp only [Bool.not_true, Bool.false_eq_true, if_false]
  refine wpAny_bind (wpAny_holding ?_)
  refine special_fn (f := 65) G2.kin I (a_init w) (a_fn w) ?_
  refine wpAny_call ?_
  have hz' : @LE.le Nat _ 150 D := hD ▸ hz
  refine init_code P (by
    show A.depth + Code.weight (.builtin "type.__call__" ⟨[.ref 128, .int mg t], []⟩) + 2 < _
    rw [tc_weight]
    omega) G2 gx gd (Nat.le_trans hz' (Nat.le_succ D)) hz' fun h₃ t₃ hk₃ L => ?_
  refine wpAny_pure ?_
  refine h ⟨h₃, gs, dr, t₃, os⟩ (D + 1) ?_ (by obtain ⟨n, L⟩ := L; rw [hD]; exact ⟨Nat.le_succ D, D, [], n, L, Nat.le_refl D, nofun⟩)
  refine Kp.of (s := ⟨hp, gs, dr, tk, os⟩) (tk := t₃) fun b o e => ?_
  have hb := Heap.lt_size e
  rw [hD] at hb
  exact hk₃ b o (Nat.ne_of_lt (Nat.lt_succ_of_lt hb)) (Nat.ne_of_lt hb) (k b o e)
end
end Mine
end

section
open PySem PySem.W PyProof.Rows PySem.Calls
set_option maxRecDepth 100000
namespace Mine

theorem Paired.get {α β : Type} {F : α → β → Prop} : ∀ {l₁ : List α} {l₂ : List β}, Paired F l₁ l₂ → ∀ {i : Nat} {b : β}, l₂[i]? = some b → ∃ a, l₁[i]? = some a ∧ F a b
  | _, _, .nil, i, b, e => by cases e
  | _, _, .cons h t, 0, b, e => by cases e; exact ⟨_, rfl, h⟩
  | _, _, .cons h t, i + 1, b, e => Paired.get t (i := i) e

theorem ints_of {idx : List Nat} {val : Nat → Int} {ys : List Value} (h : Paired (fun i v => ∃ t, v = .int (val i) t) idx ys) : ∃ xs : List (Int × Tok), ys = xs.map (fun p => .int p.1 p.2) ∧ xs.map (·.1) = idx.map val := by
  induction h with
  | nil => exact ⟨[], rfl, rfl⟩
  | cons h _ ih =>
    obtain ⟨t, rfl⟩ := h
    obtain ⟨xs, rfl, e⟩ := ih
    exact ⟨(_, t) :: xs, rfl, by rw [List.map_cons, List.map_cons, e]⟩

/-- a list of texts -/
def StrsAt (h : Heap) (l : Addr) (ws : List Str) : Prop := ∃ vs n, h.get? l = some (listOf (List.toArray vs) n) ∧ Paired (fun x v => ∃ t, v = Value.str x t) ws vs
theorem StrsAt.keep {h h' : Heap} {l : Addr} {ws : List Str} (x : StrsAt h l ws) (k : ∀ b o, o.cls ≠ .none → h.get? b = some o → h'.get? b = some o) : StrsAt h' l ws :=
  let ⟨vs, n, e, p⟩ := x; ⟨vs, n, k _ _ (by nofun) e, p⟩

section
variable {prog : Program} {w : World} {A : Around} {E : Value → Shared → Prop} {s : Shared}

theorem sum_idx {Q : Value → Shared → Prop} {idx : List Nat} {val : Nat → Int} {ys : List Value} {D : Addr} {n : Nat} (hh : A.handled = none) (hD : s.heap.get? D = some (listOf (List.toArray ys) n)) (hp : Paired (fun i v => ∃ t, v = .int (val i) t) idx ys)
    (h : ∀ h' tk t', (∀ b o, s.heap.get? b = some o → h'.get? b = some o) → Q (.int (idx.map val).sum t') { s with heap := h', toks := tk }) :
    wpAny (model prog w) A (call (.builtin "sum") [.ref D]) Q E s := by
  obtain ⟨xs, rfl, e⟩ := ints_of hp
  have hl : s.heap.IsList D (intItems xs.toArray) := ⟨_, hD, rfl, n, by simp [intItems]⟩
  refine sum_intListG hh hl fun h' tk t' hk => ?_
  have := h h' tk t' hk
  rw [← e] at this
  rw [preSum_eq, List.take_of_length_le (by simp)]
  exact this

theorem range_words (ws : List Str) : ((List.range ws.length).map fun i => match ws[i]? with | some x => (1 + x.length : Int) | none => 0) = ws.map fun x => (1 + x.length : Int) := by
  refine List.ext_getElem (by simp) fun i h1 h2 => ?_
  simp only [List.length_map, List.length_range] at h1
  simp [h1]

theorem filter_true (l : List Nat) : l.filter (fun _ => true) = l := List.filter_eq_self.mpr fun _ _ => rfl

theorem signs_code {R : Result → Shared → Prop} {l : Addr} {ws : List Str}
    (hh : A.handled = none) (hr : A.depth + 1 < recursionLimit) (G : Gd w s.heap) (Ws : StrsAt s.heap l ws) (hlen : ws.length ≤ 2 ^ 20) (hx : ∀ x ∈ ws, x.length < 2 ^ 20)
    (h : ∀ s' t, Kp w s s' → R (.ok (.ret (.int (signs ws) t))) s') : codeAny (model prog w) A (.call (.ref 144) ⟨[.ref l], []⟩) R s := by
  have f := G.kin 144 _ (by rfl)
  refine codeAny_call_def (by omega) f rfl G.lim (codeRec_of G.kin (by kernel_rfl)) rfl (BindsTo.of_eq (binds := [(Str.ofString "words", .ref l)]) rfl) (by decide) (locs rfl) (fun h₁ hn hk => ?_)
  have G1 : Gd w h₁ := G.keeps hk
  have W1 := Ws.keep (fun b o _ e => hk b o e)
  have K1 : Kp w s { s with heap := h₁, toks := s.toks + 1 } := Kp.of hk
  refine wpAny_execs_cons ?_
  refine wpAny_Return_some ?_
  refine Call_ ?_ ?q1
  case q1 => rfl
  refine nm_builtin G1.toG0 (g_sum w) b_sum ?_
  refine callWith_builtin1 ?_ ?q1 ?q2
  case q1 => rfl
  case q2 => rfl
  refine spliced_more ?_ ?q3
  case q3 => rfl
  obtain ⟨vs, n, hl, hp⟩ := W1
  have hvl : vs.length = ws.length := hp.length.symm
  refine comp_rule (cl := []) hh (closureFor_none (by decide)) (by decide) rfl (by decide) rfl (fun _ => rfl) ?_
  refine wpAny_Name (wpAny_loadName_local rfl rfl hn rfl ?_)
  refine ⟨l, vs, n, fun _ => true, fun i v => ∃ t, v = .int (match ws[i]? with | some x => (1 + x.length : Int) | none => 0) t, rfl, G1, hl, by omega, ⟨?_, ?_⟩, ?_⟩
  · intro C i v s₂ m E' hv k₂ G₂ hC hns hm
    exact wpAny_pure ⟨rfl, Kp.refl w _⟩
  · intro C i v s₂ m E' hv _ k₂ G₂ hC hns hm
    obtain ⟨x, hx1, t, rfl⟩ := Paired.get hp hv
    have hxl := hx x (List.mem_of_getElem? hx1)
    refine wpAny_BinOp ?_
    refine wpAny_Constant_int ?_
    refine Call_ ?_ ?q1
    case q1 => rfl
    refine nm_builtin G₂.toG0 (g_len w) b_len ?_
    refine callWith_builtin1 ?_ ?q1 ?q2
    case q1 => rfl
    case q2 => rfl
    refine spliced_more ?_ ?q3
    case q3 => rfl
    refine wpAny_Name (wpAny_loadName_local rfl rfl hns hm ?_)
    refine spliced_nil ?_
    refine len_str (by omega) ?_
    refine PyProof.Rows.add_int ?_
    rw [hx1]
    exact ⟨⟨_, rfl⟩, Kp.of fun _ _ e => e⟩
  · intro D s' ys k K hD hys hP
    rw [filter_true, hvl] at hP
    refine spliced_nil ?_
    refine sum_idx hh hys hP fun h' tk t' hk' => ?_
    rw [range_words]
    exact h _ _ ((K1.trans K).trans (Kp.of hk'))
end
end Mine
end

section
open PySem PySem.W PyProof.Rows PySem.Calls
set_option maxRecDepth 100000
namespace Mine
section
variable {prog : Program} {w : World} {A : Around} {E : Value → Shared → Prop} {s : Shared}

theorem g_empty (w : World) : ∃ t, globK (KK w) "EMPTYSTRING" = some (.str "" t) := ⟨_, by rfl⟩

/-- the text of a line -/
def textOf (ws : List Str) : Str := Txt.join "" (ws.map fun x => Txt.join "" [" ", x])

set_option maxHeartbeats 4000000 in
/-- __str__ of a line -/
theorem str_code {R : Result → Shared → Prop} {a : Addr} {mg : Int} {ws : List Str} {d : Addr} {Ts : List Addr} {n : Nat}
    (hh : A.handled = none) (hr : A.depth + 5 < recursionLimit) (G : Gd w s.heap) (Ln : LineIs s.heap a mg ws d Ts n) (hlen : ws.length ≤ 2 ^ 10) (hx : ∀ x ∈ ws, x.length < 2 ^ 10)
    (h : ∀ s' t, Kp w s s' → R (.ok (.ret (.str (textOf ws) t))) s') :
    codeAny (model prog w) A (.call (.ref 102) ⟨[.ref a], []⟩) R s := by
  have f := G.kin 102 _ (by rfl)
  refine codeAny_call_def (by omega) f rfl G.lim (codeRec_of G.kin (by kernel_rfl)) rfl (BindsTo.of_eq (binds := [(Str.ofString "self", .ref a)]) rfl) (by decide) (locs rfl) (fun h₁ hn hk => ?_)
  have G1 : Gd w h₁ := G.keeps hk
  have L1 := Ln.keep (fun b o _ e => hk b o e)
  obtain ⟨te, hte⟩ := g_empty w
  refine wpAny_execs_cons ?_
  refine wpAny_Return_some ?_
  refine MethodCall_ ?_
  refine nm_glob G1.toG0 hte ?_
  refine GM.join ?_
  refine callWith_method1 ?_ ?q1 ?q2
  case q1 => rfl
  case q2 => rfl
  refine spliced_more ?_ ?q3
  case q3 => rfl
  refine wpAny_GeneratorExp_walksQT (cl := []) hh ?c1 ?c2 ?c3 ?c4 ?c5 ?c6 ?c7 ?c8 ?c9 ?_ ?c10
  case c1 => rfl
  case c2 => rfl
  case c3 => decide
  case c4 => rfl
  case c5 => rfl
  case c6 => rfl
  case c7 => decide
  case c8 => rfl
  case c9 => show A.depth + 1 < _; omega
  case c10 => exact (fun _ => rfl)
  refine wpAny_Name (wpAny_loadName_local rfl rfl hn rfl ?_)
  refine iter_line G1.toG0 L1.at_ ?_
  dsimp only
  generalize hI : h₁.objs.size = I
  generalize hH2 : h₁.push { cls := Value.type "list_iterator", data := Data.fields #[Value.ref a, Value.int 0 0] } = h₂
  have k2 : ∀ b o, h₁.get? b = some o → h₂.get? b = some o := fun b o e => hH2 ▸ Heap.get?_push_of_some _ e
  have z2 : h₂.objs.size = I + 1 := by rw [← hH2, Heap.size_push, hI]
  have hit2 : h₂.IsListIter I a 0 := ⟨_, by rw [← hH2, ← hI]; exact Heap.get?_push_size _ rfl, rfl, rfl⟩
  have G2 : Gd w h₂ := G1.keeps k2
  have L2 := L1.keep (fun b o _ e => k2 b o e)
  refine ⟨G2.lim, ?_⟩
  refine gen_code rfl G2.t2 fun code h₃ tk3 k3 t3 => ?_
  dsimp only at k3
  have G3 : Gd w h₃ := ⟨G2.toG0.but fun b o _ h1 e => k3 b o h1 e, G2.t1.two (fun o => k3 _ o (by decide)) (fun o => k3 _ o (by decide)), t3⟩
  have L3 := L2.keep (fun b o hc e => k3 b o (G2.t2.ne e hc) e)
  refine bi_for G3.toG0 ?_
  have hT : ∀ T ∈ Ts, T ≠ I := by
    intro T hT
    obtain ⟨i, hi, rfl⟩ := List.getElem_of_mem hT
    obtain ⟨t1, t2, e⟩ := L1.pair i Ts[i] (ws[i]'(by have := L1.len; omega)) (by simp) (by simp)
    exact Nat.ne_of_lt (hI ▸ Heap.lt_size e)
  have hI3 : h₃.get? I = some { cls := Value.type "list_iterator", data := Data.fields #[Value.ref a, Value.int 0 0] } := by
    refine k3 I _ ?_ (by rw [← hH2, ← hI]; exact Heap.get?_push_size _ rfl)
    obtain ⟨ps, x1, x2⟩ := G1.t2
    exact Nat.ne_of_gt (hI ▸ Heap.lt_size x2.2)
  refine ⟨I, I :: a :: Ts, [I], ws.length, pairs ws, _, _, fun _ => true, fun i v => ∃ x t, ws[i]? = some x ∧ v = .str (Txt.join "" [" ", x]) t, rfl, fun A' hA' => walk_line hA' I a d (Nat.ne_of_lt (hI ▸ Heap.lt_size L1.at_)) ws Ts n L1.len hT, ?_, ?_, ?_, G3.lim, ?_, ?_, ?_⟩
  · rintro i vals ⟨x, t1, t2, _, rfl⟩
    exact ⟨_, _, rfl⟩
  · exact ⟨⟨_, hI3, rfl, rfl⟩, L3.at_, L3.pair⟩
  · intro b hb
    rcases List.mem_cons.mp hb with rfl | hb
    · exact Heap.lt_size hI3
    rcases List.mem_cons.mp hb with rfl | hb
    · exact Heap.lt_size L3.at_
    · obtain ⟨i, hi, rfl⟩ := List.getElem_of_mem hb
      obtain ⟨t1, t2, e⟩ := L3.pair i Ts[i] (ws[i]'(by have := L1.len; omega)) (by simp) (by simp)
      exact Heap.lt_size e
  · intro hm
    have e := List.mem_singleton.mp hm
    obtain ⟨mc, hns, _⟩ := G1.lim
    exact absurd (hI ▸ hns.lt) (e ▸ Nat.lt_irrefl _)
  · intro href hk4
    refine ⟨fun A' E' i va vb s₂ m₂ hA' hP hn2 ha hb hk2 => wpAny_pure ⟨rfl, s₂.heap, s₂.toks, rfl, fun _ _ e => e⟩, fun A' E' i va vb s₂ m₂ hA' hP _ hn2 ha hb hk2 => ?_⟩
    obtain ⟨x, t1, t2, hwx, e⟩ := hP
    cases e
    have Ge : G0 w s₂.heap := G1.toG0.but fun b o _ h1 e => hk2 b (List.mem_range.mpr (Heap.lt_size (k3 b o h1 (k2 b o e)))) (fun hm => by
      have e1 := List.mem_singleton.mp hm
      exact absurd (hI ▸ Heap.lt_size e) (e1 ▸ Nat.lt_irrefl _)) o (hk4 b o (k3 b o h1 (k2 b o e)))
    obtain ⟨hp2, gs2, dr2, tk2, os2⟩ := s₂
    refine MethodCall_ ?_
    refine nm_glob Ge hte ?_
    refine GM.join ?_
    refine callWith_method1 ?_ ?q1 ?q2
    case q1 => rfl
    case q2 => rfl
    refine spliced_more ?_ ?q3
    case q3 => rfl
    refine wpAny_Tuple_spliced ?_
    refine spliced_more ?_ ?q3
    case q3 => rfl
    refine wpAny_Name (wpAny_loadName_local rfl rfl hn2 ha ?_)
    refine spliced_more ?_ ?q3
    case q3 => rfl
    refine wpAny_Name (wpAny_loadName_local rfl rfl hn2 hb ?_)
    refine spliced_nil ?_
    refine ⟨Nat.le_trans (by show 2 ≤ 2 ^ 20; decide) sz20, ?_⟩
    refine spliced_nil ?_
    have hxl := hx x (List.mem_of_getElem? hwx)
    refine join_tuple (ys := [" ", x]) ⟨_, Heap.get?_push_size _ rfl, rfl, _, rfl⟩ (.cons _ _ (.cons _ _ .nil)) ?_ fun t' k => ?_
    · show (Str.ofString " ").length + (x.length + 0) + 2 * 0 ≤ _
      have : (Str.ofString " ").length = 1 := rfl
      omega
    · exact ⟨⟨x, _, hwx, rfl⟩, _, _, rfl, fun b o e => Heap.get?_push_of_some _ e⟩
  · intro g h₅ tk gs hb hg1 hg2 hk5 W St5
    have k35 : ∀ b o, h₁.get? b = some o → b ≠ 97 → h₅.get? b = some o := fun b o e hb => hk5 b o (k3 b o hb (k2 b o e))
    have G5 : Gd w h₅ := G3.keeps hk5
    have L5 := L3.keep (fun b o _ e => hk5 b o e)
    have hn5 : h₅.Ns s.heap.objs.size fun x => List.lookup x [(Str.ofString "self", Value.ref a)].reverse := by
      obtain ⟨o, es, ep, ho, r⟩ := hn
      refine ⟨o, es, ep, k35 _ _ ho ?_, r⟩
      obtain ⟨ps, x1, x2⟩ := G.t2
      exact Nat.ne_of_gt (Heap.lt_size x2.2)
    refine spliced_nil ?_
    have pt : passing (fun _ => true) ws.length 0 = List.range ws.length := by
      unfold passing
      rw [List.drop_zero]
      exact List.filter_eq_self.mpr fun _ _ => rfl
    refine SC.joinGen W.in4_2 ?hT St5 ?_ (.head _) ?_ (fun s' l hmv hit => ?_) ?_
    case hT =>
      intro i s₆ st
      obtain ⟨o, x, y, e1, e2, _⟩ := st.1
      exact ⟨o, e1, e2⟩
    · intro b hb
      rcases List.mem_cons.mp hb with rfl | hb
      · rw [hg2]; exact Nat.lt_succ_self _
      rcases List.mem_cons.mp hb with rfl | hb
      · rw [hg2]; exact Nat.lt_succ_of_lt hg1
      · rw [hg2]; exact Nat.lt_succ_of_lt (Nat.lt_trans (List.mem_range.mp hb) hg1)
    · rintro i v ⟨j, hj, x, t, e, rfl⟩
      exact ⟨_, _, rfl⟩
    · have hl : l.map (·.1) = ws.map fun x => Txt.join "" [" ", x] := by
        rw [pt, List.length_range] at hit
        have hsz : l.length = ws.length := by simpa [strValues] using hit.1
        refine List.ext_getElem (by simp [hsz]) fun i h1 h2 => ?_
        simp only [List.length_map] at h1 h2
        obtain ⟨j, hj, x, t, e, ev⟩ := hit.2 i (.str l[i].1 l[i].2) (by simp [strValues, h1])
        obtain ⟨hlt, rfl⟩ := List.getElem?_eq_some_iff.mp hj
        rw [List.getElem_range] at e
        injection ev with ev _
        have e2 : ws[i] = x := by
          have := List.getElem?_eq_getElem h2
          rw [this] at e
          injection e
        simp [ev, e2]
      rw [hl]
      refine ⟨?_, ?_⟩
      · refine joinOk_of ?_
        rw [List.length_map, List.map_map]
        show _ + ws.length * 0 ≤ _
        have hsum : ∀ (l : List Str), (∀ x ∈ l, x.length < 2 ^ 10) → (l.map fun x => (Txt.join "" [" ", x]).length).sum ≤ l.length * 1025 := by
          intro l
          induction l with
          | nil => intro _; exact Nat.zero_le _
          | cons x l ih =>
            intro hx
            have h1 := ih fun y hy => hx y (List.mem_cons_of_mem _ hy)
            have h2 := hx x List.mem_cons_self
            have h3 : (Txt.join "" [" ", x]).length = 1 + x.length := by
              unfold Txt.join
              rw [StrLaws.glued_eq_join]
              show (Str.ofString " " ++ Str.ofString "" ++ x).length = _
              rw [Str.length_append, Str.length_append]
              rfl
            rw [List.map_cons, List.sum_cons, List.length_cons, h3, Nat.succ_mul]
            omega
        have := hsum ws hx
        show (ws.map fun x => (Txt.join "" [" ", x]).length).sum + _ ≤ _
        have h4 := Nat.mul_le_mul_right 1025 hlen
        omega
      · have k5s : ∀ b o, b ≠ 97 → s.heap.get? b = some o → s'.heap.get? b = some o := by
          intro b o h9 e
          have e5 := k35 b o (hk b o e) h9
          refine hmv.heap b o ?_ e5
          intro hm
          have hl := Heap.lt_size (hk b o e)
          rcases List.mem_cons.mp hm with rfl | hm
          · have := Heap.lt_size (k2 _ _ (hk _ _ e))
            have hl3 := Heap.lt_size (k3 _ _ h9 (k2 _ _ (hk _ _ e)))
            exact absurd hl3 (Nat.lt_irrefl _)
          · have e1 := List.mem_singleton.mp hm
            exact absurd (hI ▸ hl) (e1 ▸ Nat.lt_irrefl _)
        have k5t : ∀ b o, b < I → h₅.get? b = some o → s'.heap.get? b = some o := by
          intro b o hb e
          refine hmv.heap b o ?_ e
          intro hm
          rcases List.mem_cons.mp hm with rfl | hm
          · have := Heap.lt_size hI3
            exact absurd (Nat.lt_trans hb this) (Nat.lt_irrefl _)
          · have e1 := List.mem_singleton.mp hm
            exact absurd hb (e1 ▸ Nat.lt_irrefl _)
        refine (fun t' k => h _ t' (Kp.toks ⟨fun b o _ h1 e => k5s b o h1 e, fun _ => ?_, fun hg => ?_, hmv.os⟩))
        · have lt : ∀ b o, h₁.get? b = some o → b < I := fun b o e => hI ▸ Heap.lt_size e
          refine ⟨G.toG0.but fun b o _ h1 e => k5s b o h1 e, ?_, ?_⟩
          · exact G5.t1.two (fun o => k5t _ o (hI ▸ G1.t1.lt.1)) fun o => k5t _ o (hI ▸ G1.t1.lt.2)
          · exact G5.t2.two (fun o => k5t _ o (hI ▸ G1.t2.lt.1)) fun o => k5t _ o (hI ▸ G1.t2.lt.2)
        · exact AllBare.moved (AllBare.push hg hb) hmv.gens

    · rw [pt, List.length_range]; exact Nat.le_trans hlen (Nat.le_trans (by decide) sz20)

theorem a_str (w : World) : findIn (KK w) (.ref 128) "__str__" = some (some (.ref 102)) := by kernel_rfl

/-- str(line) -/
theorem str_line {a : Addr} {mg : Int} {ws : List Str} {Q : Value → Shared → Prop} (hu : A.in1.in1.units < cLine)
    (hh : A.handled = none) (hr : A.depth + 5 < recursionLimit) (G : Gd w s.heap) (Ln : LineAt s.heap a mg ws) (hlen : ws.length ≤ 2 ^ 10) (hx : ∀ x ∈ ws, x.length < 2 ^ 10)
    (h : ∀ s' t, Kp w s s' → Q (.str (textOf ws) t) s') : wpAny (model prog w) A (call (.type "str") [.ref a]) Q E s := by
  obtain ⟨d, Ts, n, Ln⟩ := Ln
  obtain ⟨es, k, t, hd, _⟩ := Ln.dict
  have I : W.InstAt s.heap a (lineObj d (Ts.map Value.ref).toArray n) 128 (some (dictOf es k)) := ⟨Ln.at_, rfl, rfl, hd⟩
  refine kso_call hu G.kin I (a_str w) (by kernel_rfl) (wpAny_call ?_)
  exact str_code hh hr G Ln hlen hx fun s' t k => h s' t k
end
end Mine
end

section
open PySem PySem.W PyProof.Rows PySem.Calls
namespace Mine

/-! the plain law: no program in sight -/

abbrev sz (x : Str) : Int := 1 + x.length

theorem signs_append (u v : List Str) : signs (u ++ v) = signs u + signs v := by unfold signs; rw [List.map_append, List.sum_append]
theorem signs_one (x : Str) : signs [x] = sz x := by simp [signs, sz]
theorem signs_cons (x : Str) (u : List Str) : signs (x :: u) = sz x + signs u := by simp [signs, sz]

/-- the sizes: each divides the next -/
structure Ch (a b c r : Int) : Prop where
  pa : 0 < a
  pb : 0 < b
  pc : 0 < c
  pr : 0 < r
  ab : a ∣ b
  bc : b ∣ c
  cr : c ∣ r

def IsSz (a b c r d : Int) : Prop := d = a ∨ d = b ∨ d = c ∨ d = r

section
variable {a b c r : Int}

theorem IsSz.pos (H : Ch a b c r) {d : Int} (h : IsSz a b c r d) : 0 < d := by
  obtain ⟨h1, h2, h3, h4, _, _, _⟩ := H
  rcases h with rfl | rfl | rfl | rfl <;> assumption

theorem IsSz.room (H : Ch a b c r) {d : Int} (h : IsSz a b c r d) : d ∣ r := by
  obtain ⟨h1, h2, h3, h4, ab, bc, cr⟩ := H
  rcases h with rfl | rfl | rfl | rfl
  · exact Int.dvd_trans ab (Int.dvd_trans bc cr)
  · exact Int.dvd_trans bc cr
  · exact cr
  · exact Int.dvd_refl _

theorem IsSz.dvd (H : Ch a b c r) {d e : Int} (hd : IsSz a b c r d) (he : IsSz a b c r e) (h : d ≤ e) : d ∣ e := by
  have p1 := hd.pos H
  have p2 := he.pos H
  obtain ⟨h1, h2, h3, h4, ab, bc, cr⟩ := H
  have ac := Int.dvd_trans ab bc
  have ar := Int.dvd_trans ac cr
  have br := Int.dvd_trans bc cr
  have eq : ∀ {x y : Int}, 0 < x → 0 < y → y ∣ x → x ≤ y → x ∣ y := fun {x y} hx _ hyx hxy => by
    have := Int.le_of_dvd hx hyx
    have e : x = y := by omega
    rw [e]
    exact Int.dvd_refl _
  rcases hd with rfl | rfl | rfl | rfl <;> rcases he with rfl | rfl | rfl | rfl <;> first | assumption | exact Int.dvd_refl _ | exact eq (by assumption) (by assumption) (by assumption) h

/-- what is on the lines, in the order in which they were opened -/
structure Good (a b c r : Int) (wss : List (List Str)) : Prop where
  sizes : ∀ ws ∈ wss, ∀ x ∈ ws, sz x = a ∨ sz x = b ∨ sz x = c
  ne : ∀ ws ∈ wss, ws ≠ []
  le : ∀ ws ∈ wss, signs ws ≤ r
  first : wss.Pairwise (fun u v => ∀ x ∈ v, r - signs u < sz x)

theorem dvd_signs {d : Int} : ∀ (ws : List Str), (∀ x ∈ ws, d ∣ sz x) → d ∣ signs ws
  | [], _ => by show d ∣ 0; exact Int.dvd_zero d
  | x :: u, h => by
    rw [signs_cons]
    exact Int.dvd_add (h x List.mem_cons_self) (dvd_signs u fun y hy => h y (List.mem_cons_of_mem _ hy))

theorem least : ∀ (ws : List Str), ws ≠ [] → ∃ x ∈ ws, ∀ y ∈ ws, sz x ≤ sz y
  | [], h => absurd rfl h
  | [x], _ => ⟨x, List.mem_cons_self, fun y hy => by rw [List.mem_singleton.mp hy]; exact Int.le_refl _⟩
  | x :: y :: u, _ => by
    obtain ⟨z, hz, hm⟩ := least (y :: u) (by simp)
    by_cases h : sz x ≤ sz z
    · refine ⟨x, List.mem_cons_self, fun v hv => ?_⟩
      rcases List.mem_cons.mp hv with rfl | hv
      · exact Int.le_refl _
      · exact Int.le_trans h (hm v hv)
    · refine ⟨z, List.mem_cons_of_mem _ hz, fun v hv => ?_⟩
      rcases List.mem_cons.mp hv with rfl | hv
      · omega
      · exact hm v hv

theorem IsSz.of {x : Str} (h : sz x = a ∨ sz x = b ∨ sz x = c) : IsSz a b c r (sz x) := by
  rcases h with h | h | h
  · exact .inl h
  · exact .inr (.inl h)
  · exact .inr (.inr (.inl h))

/-- the free room of a line is a multiple of its least word -/
theorem free_dvd (H : Ch a b c r) {ws : List Str} (hs : ∀ x ∈ ws, sz x = a ∨ sz x = b ∨ sz x = c) (hn : ws ≠ []) : ∃ x ∈ ws, IsSz a b c r (sz x) ∧ sz x ∣ r - signs ws := by
  obtain ⟨x, hx, hm⟩ := least ws hn
  have h := IsSz.of (r := r) (hs x hx)
  refine ⟨x, hx, h, Int.dvd_sub (h.room H) (dvd_signs ws fun y hy => h.dvd H (IsSz.of (hs y hy)) (hm y hy))⟩

/-- a later line is full, or has more room than an earlier one -/
theorem free_lt (H : Ch a b c r) {u v : List Str} (hs : ∀ x ∈ v, sz x = a ∨ sz x = b ∨ sz x = c) (hn : v ≠ []) (hl : signs v ≤ r) (hf : ∀ x ∈ v, r - signs u < sz x) : r - signs v = 0 ∨ r - signs u < r - signs v := by
  obtain ⟨x, hx, hz, hd⟩ := free_dvd H hs hn
  have h1 := hf x hx
  by_cases h0 : r - signs v = 0
  · exact .inl h0
  · have := Int.le_of_dvd (by omega) hd
    exact .inr (by omega)

theorem Good.init {u : List (List Str)} {v : List Str} (G : Good a b c r (u ++ [v])) : Good a b c r u :=
  ⟨fun ws h => G.sizes ws (List.mem_append_left _ h), fun ws h => G.ne ws (List.mem_append_left _ h), fun ws h => G.le ws (List.mem_append_left _ h), (List.pairwise_append.mp G.first).1⟩

/-- all lines' free room together -/
def waste (r : Int) (wss : List (List Str)) : Int := (wss.map fun ws => r - signs ws).sum

theorem waste_lt (H : Ch a b c r) : ∀ (n : Nat) (wss : List (List Str)), wss.length = n → Good a b c r wss → ∀ d, IsSz a b c r d → (∀ ws ∈ wss, r - signs ws < d) → waste r wss < d
  | 0, wss, hn, _, d, hd, _ => by
    rw [List.length_eq_zero_iff.mp hn]
    exact hd.pos H
  | n + 1, wss, hn, G, d, hd, hw => by
    rcases List.eq_nil_or_concat wss with rfl | ⟨u, v, e₀⟩
    · cases hn
    rw [List.concat_eq_append] at e₀
    subst e₀
    have hlen : u.length = n := by rw [List.length_append] at hn; exact Nat.succ.inj hn
    have mv : v ∈ u ++ [v] := List.mem_append_right _ (List.mem_singleton.mpr rfl)
    obtain ⟨x, hx, hz, hdv⟩ := free_dvd H (G.sizes v mv) (G.ne v mv)
    have hfirst := (List.pairwise_append.mp G.first).2.2
    have hle := G.le v mv
    have hv := hw v mv
    have e : waste r (u ++ [v]) = waste r u + (r - signs v) := by
      unfold waste
      rw [List.map_append, List.sum_append]
      simp
    have px := hz.pos H
    have pd := hd.pos H
    by_cases h0 : r - signs v = 0
    · have := waste_lt H n u hlen G.init d hd fun ws h => hw ws (List.mem_append_left _ h)
      omega
    · have h1 := Int.le_of_dvd (by omega) hdv
      have h2 := waste_lt H n u hlen G.init (sz x) hz fun ws h => hfirst ws h v (List.mem_singleton.mpr rfl) x hx
      have h3 : sz x ∣ d := hz.dvd H hd (by omega)
      obtain ⟨p, hp⟩ := h3
      obtain ⟨q, hq⟩ := hdv
      rw [e]
      have hqp : q < p := by
        by_cases hc : q < p
        · exact hc
        · have : sz x * p ≤ sz x * q := Int.mul_le_mul_of_nonneg_left (by omega) (by omega)
          omega
      have : sz x * (q + 1) ≤ sz x * p := Int.mul_le_mul_of_nonneg_left (by omega) (by omega)
      rw [Int.mul_add, Int.mul_one] at this
      omega

theorem waste_nonneg : ∀ {wss : List (List Str)}, (∀ ws ∈ wss, signs ws ≤ r) → 0 ≤ waste r wss
  | [], _ => Int.le_refl 0
  | ws :: u, h => by
    have h1 := waste_nonneg (wss := u) fun v hv => h v (List.mem_cons_of_mem _ hv)
    have h2 := h ws List.mem_cons_self
    unfold waste at h1 ⊢
    rw [List.map_cons, List.sum_cons]
    omega

def tot (wss : List (List Str)) : Int := (wss.map signs).sum

theorem waste_tot : ∀ (wss : List (List Str)), waste r wss = wss.length * r - tot wss
  | [] => by simp [waste, tot]
  | ws :: u => by
    have := waste_tot u
    unfold waste tot at this ⊢
    rw [List.map_cons, List.sum_cons, this, List.map_cons, List.sum_cons, List.length_cons]
    push_cast
    rw [Int.add_mul, Int.one_mul]
    omega

/-- as few lines as could be -/
theorem count (H : Ch a b c r) {wss : List (List Str)} (G : Good a b c r wss) : Int.fdiv (tot wss + r - 1) r = wss.length := by
  have pr := H.pr
  have h1 := waste_lt H _ wss rfl G r (.inr (.inr (.inr rfl))) fun ws h => by
    have hne := G.ne ws h
    have : 0 < signs ws := by
      cases ws with
      | nil => exact absurd rfl hne
      | cons x u =>
        rw [signs_cons]
        have := signs_nonneg u
        unfold sz
        omega
    omega
  have h2 := waste_nonneg (r := r) G.le
  rw [waste_tot] at h1 h2
  rw [Int.fdiv_eq_ediv_of_nonneg _ (by omega)]
  generalize hN : (wss.length : Int) = N at *
  have e : tot wss + r - 1 = N * r + (tot wss + r - 1 - N * r) := by omega
  rw [e, Int.add_comm, Int.add_mul_ediv_right _ _ (by omega), Int.ediv_eq_zero_of_lt (by omega) (by omega), Int.zero_add]

/-- a word on a new line -/
theorem Good.fresh (H : Ch a b c r) {wss : List (List Str)} (G : Good a b c r wss) {x : Str} (hx : sz x = a ∨ sz x = b ∨ sz x = c) (hf : ∀ ws ∈ wss, r < signs ws + sz x) : Good a b c r (wss ++ [[x]]) := by
  have hle : sz x ≤ r := Int.le_of_dvd H.pr ((IsSz.of hx).room H)
  refine ⟨fun ws h => ?_, fun ws h => ?_, fun ws h => ?_, ?_⟩
  · rcases List.mem_append.mp h with h | h
    · exact G.sizes ws h
    · rw [List.mem_singleton.mp h]
      intro y hy
      rw [List.mem_singleton.mp hy]
      exact hx
  · rcases List.mem_append.mp h with h | h
    · exact G.ne ws h
    · rw [List.mem_singleton.mp h]; simp
  · rcases List.mem_append.mp h with h | h
    · exact G.le ws h
    · rw [List.mem_singleton.mp h, signs_one]; exact hle
  · refine List.pairwise_append.mpr ⟨G.first, List.pairwise_singleton _ _, fun u hu v hv y hy => ?_⟩
    rw [List.mem_singleton.mp hv] at hy
    rw [List.mem_singleton.mp hy]
    have := hf u hu
    omega

/-- a word on the first line with room -/
theorem Good.onto {u v : List (List Str)} {ws : List Str} (G : Good a b c r (u ++ ws :: v)) {x : Str} (hx : sz x = a ∨ sz x = b ∨ sz x = c) (hr : signs ws + sz x ≤ r) (hf : ∀ q ∈ u, r < signs q + sz x) :
    Good a b c r (u ++ (ws ++ [x]) :: v) := by
  have mw : ws ∈ u ++ ws :: v := List.mem_append_right _ List.mem_cons_self
  have mu : ∀ q, q ∈ u → q ∈ u ++ ws :: v := fun q h => List.mem_append_left _ h
  have mv : ∀ q, q ∈ v → q ∈ u ++ ws :: v := fun q h => List.mem_append_right _ (List.mem_cons_of_mem _ h)
  have pos : 0 ≤ sz x := by unfold sz; omega
  obtain ⟨f1, f2, f3⟩ := List.pairwise_append.mp G.first
  obtain ⟨f4, f5⟩ := List.pairwise_cons.mp f2
  have hs : signs (ws ++ [x]) = signs ws + sz x := by rw [signs_append, signs_one]
  refine ⟨fun q h => ?_, fun q h => ?_, fun q h => ?_, ?_⟩
  · rcases List.mem_append.mp h with h | h
    · exact G.sizes q (mu q h)
    · rcases List.mem_cons.mp h with rfl | h
      · intro y hy
        rcases List.mem_append.mp hy with hy | hy
        · exact G.sizes ws mw y hy
        · rw [List.mem_singleton.mp hy]; exact hx
      · exact G.sizes q (mv q h)
  · rcases List.mem_append.mp h with h | h
    · exact G.ne q (mu q h)
    · rcases List.mem_cons.mp h with rfl | h
      · simp
      · exact G.ne q (mv q h)
  · rcases List.mem_append.mp h with h | h
    · exact G.le q (mu q h)
    · rcases List.mem_cons.mp h with rfl | h
      · rw [hs]; exact hr
      · exact G.le q (mv q h)
  · refine List.pairwise_append.mpr ⟨f1, List.pairwise_cons.mpr ⟨fun q hq y hy => ?_, f5⟩, fun p hp q hq y hy => ?_⟩
    · have := f4 q hq y hy
      rw [hs]
      omega
    · rcases List.mem_cons.mp hq with rfl | hq
      · rcases List.mem_append.mp hy with hy | hy
        · exact f3 p hp ws List.mem_cons_self y hy
        · rw [List.mem_singleton.mp hy]
          have := hf p hp
          omega
      · exact f3 p hp q (List.mem_cons_of_mem _ hq) y hy

theorem tot_append (u v : List (List Str)) : tot (u ++ v) = tot u + tot v := by unfold tot; rw [List.map_append, List.sum_append]
theorem tot_cons (x : List Str) (u : List (List Str)) : tot (x :: u) = signs x + tot u := by simp [tot]

/-- the fullest line with room is the first one with room -/
theorem fullest (H : Ch a b c r) {α : Type} {l1 l2 rs : List (α × List Str)} {p : α × List Str} {need : Int} {k : Nat} (hneed : 0 < need) (G : Good a b c r ((l1 ++ p :: l2).map (·.2))) (hp : rs.Perm (l1 ++ p :: l2))
    (hs : rs.Pairwise (fun x y => signs x.2 ≤ signs y.2)) (hk : rs[k]? = some p) (hfree : signs p.2 ≤ r - need) (hlater : ∀ j q, k + 1 ≤ j → rs[j]? = some q → r - need < signs q.2) :
    ∀ q ∈ l1, r < signs q.2 + need := by
  intro q hq
  by_cases hc : r < signs q.2 + need
  · exact hc
  exfalso
  have mq : q ∈ l1 ++ p :: l2 := List.mem_append_left _ hq
  have mp : p ∈ l1 ++ p :: l2 := List.mem_append_right _ List.mem_cons_self
  have M : ∀ x, x ∈ l1 ++ p :: l2 → x.2 ∈ (l1 ++ p :: l2).map (·.2) := fun x hx => List.mem_map_of_mem hx
  have hpair : ∀ x ∈ p.2, r - signs q.2 < sz x := by
    have f := G.first
    rw [List.map_append] at f
    exact (List.pairwise_append.mp f).2.2 q.2 (List.mem_map_of_mem hq) p.2 (by simp)
  have h1 := free_lt H (G.sizes p.2 (M p mp)) (G.ne p.2 (M p mp)) (G.le p.2 (M p mp)) hpair
  have hqr := hp.mem_iff.mpr mq
  obtain ⟨j, hj, e⟩ := List.getElem_of_mem hqr
  have hjk : j ≤ k := by
    by_cases h : j ≤ k
    · exact h
    · have := hlater j q (by omega) (by rw [List.getElem?_eq_getElem hj, e])
      omega
  obtain ⟨hk1, hk2⟩ := List.getElem?_eq_some_iff.mp hk
  have hle : signs q.2 ≤ signs p.2 := by
    by_cases h : j = k
    · subst h
      rw [← e, hk2]
      exact Int.le_refl _
    · have := List.pairwise_iff_getElem.mp hs j k hj hk1 (by omega)
      rw [e, hk2] at this
      exact this
  omega

/-- the list's first item that passes -/
theorem range_first {p : Nat → Bool} {m : Nat} (hp : p m = true) (hl : ∀ j, j < m → p j = false) : ∀ n, m < n → ∃ rest, (List.range n).filter p = m :: rest
  | 0, h => absurd h (Nat.not_lt_zero _)
  | n + 1, h => by
    rw [List.range_succ, List.filter_append]
    by_cases hm : m = n
    · subst hm
      have e : (List.range m).filter p = [] := List.filter_eq_nil_iff.mpr fun j hj => by rw [hl j (List.mem_range.mp hj)]; decide
      rw [e]
      refine ⟨[], ?_⟩
      simp [hp]
    · obtain ⟨rest, e⟩ := range_first hp hl n (by omega)
      rw [e]
      exact ⟨_, rfl⟩
theorem range_none {p : Nat → Bool} {n : Nat} (hl : ∀ j, j < n → p j = false) : (List.range n).filter p = [] :=
  List.filter_eq_nil_iff.mpr fun j hj => by rw [hl j (List.mem_range.mp hj)]; decide

theorem perm_sorted : ∀ {u v : List Int}, u.Perm v → u.Pairwise (· ≤ ·) → v.Pairwise (· ≤ ·) → u = v
  | [], v, h, _, _ => (List.Perm.nil_eq h)
  | x :: u, [], h, _, _ => absurd h.length_eq (by simp)
  | x :: u, y :: v, h, hu, hv => by
    obtain ⟨h1, h2⟩ := List.pairwise_cons.mp hu
    obtain ⟨h3, h4⟩ := List.pairwise_cons.mp hv
    have e : x = y := by
      have m1 : x ∈ y :: v := h.mem_iff.mp List.mem_cons_self
      have m2 : y ∈ x :: u := h.mem_iff.mpr List.mem_cons_self
      rcases List.mem_cons.mp m1 with rfl | m1
      · rfl
      rcases List.mem_cons.mp m2 with rfl | m2
      · rfl
      have a1 := h3 x m1
      have a2 := h1 y m2
      omega
    subst e
    rw [perm_sorted (List.Perm.cons_inv h) h2 h4]
end
end Mine
end

section
open PySem PySem.W PyProof.Rows PySem.Calls
set_option maxRecDepth 100000
namespace Mine

/-- the law's own objects in a turn of its loop -/
structure Hp (w : World) (B aO aR aP : Addr) (mg : Int) (op rw : List Addr) (lines pls : List (Addr × List Str)) (h : Heap) : Prop where
  big : @LE.le Nat _ 150 B
  iO : @LE.le Nat _ 150 aO
  iR : @LE.le Nat _ 150 aR
  iP : @LE.le Nat _ 150 aP
  bO : @LT.lt Nat _ aO B
  bR : @LT.lt Nat _ aR B
  bP : @LT.lt Nat _ aP B
  bp : ∀ p ∈ pls, @LE.le Nat _ B p.1
  dOR : aO ≠ aR
  dOP : aO ≠ aP
  dRP : aR ≠ aP
  dp : ∀ p ∈ pls, p.1 ≠ aO ∧ p.1 ≠ aR ∧ p.1 ≠ aP
  ndp : (pls.map (·.1)).Nodup
  ndl : (lines.map (·.1)).Nodup
  oO : ∃ n, h.get? aO = some (listOf (op.map Value.ref).toArray n)
  oR : ∃ n, h.get? aR = some (listOf (rw.map Value.ref).toArray n)
  oP : ∃ n, h.get? aP = some (listOf ((pls.map (·.1)).map Value.ref).toArray n)
  lin : ∀ p ∈ lines, LineOver B h p.1 mg p.2
  pla : ∀ p ∈ pls, StrsAt h p.1 p.2

section
variable {w : World} {B aO aR aP : Addr} {mg : Int} {op rw : List Addr} {lines pls : List (Addr × List Str)} {h h' : Heap} {r : Addr}

theorem StrsAt.but {l : Addr} {ws : List Str} (x : StrsAt h l ws) (hl : l ≠ r) (k : ∀ b ob, ob.cls ≠ .none → b ≠ r → h.get? b = some ob → h'.get? b = some ob) : StrsAt h' l ws :=
  let ⟨vs, n, e, p⟩ := x; ⟨vs, n, k _ _ (by nofun) hl e, p⟩

/-- a step that writes nothing of the law's -/
theorem Hp.low (H : Hp w B aO aR aP mg op rw lines pls h) (hr : @LT.lt Nat _ r B) (rO : r ≠ aO) (rR : r ≠ aR) (rP : r ≠ aP) (k : ∀ b ob, ob.cls ≠ .none → b ≠ r → h.get? b = some ob → h'.get? b = some ob) : Hp w B aO aR aP mg op rw lines pls h' := by
  have ne : ∀ {b : Addr}, @LE.le Nat _ B b → b ≠ r := fun hb => Nat.ne_of_gt (Nat.lt_of_lt_of_le hr hb)
  exact { H with
    oO := let ⟨n, e⟩ := H.oO; ⟨n, k _ _ (by nofun) (Ne.symm rO) e⟩
    oR := let ⟨n, e⟩ := H.oR; ⟨n, k _ _ (by nofun) (Ne.symm rR) e⟩
    oP := let ⟨n, e⟩ := H.oP; ⟨n, k _ _ (by nofun) (Ne.symm rP) e⟩
    lin := fun p hp => (H.lin p hp).but (.inl hr) k
    pla := fun p hp => (H.pla p hp).but (ne (H.bp p hp)) k }

/-- the row is written -/
theorem Hp.wR (H : Hp w B aO aR aP mg op rw lines pls h) (k : ∀ b ob, ob.cls ≠ .none → b ≠ aR → h.get? b = some ob → h'.get? b = some ob) {rw' : List Addr} (e : ∃ n, h'.get? aR = some (listOf (rw'.map Value.ref).toArray n)) : Hp w B aO aR aP mg op rw' lines pls h' := by
  obtain ⟨n, eR⟩ := H.oR
  exact { H with
    oO := let ⟨n, e⟩ := H.oO; ⟨n, k _ _ (by nofun) H.dOR e⟩
    oR := e
    oP := let ⟨n, e⟩ := H.oP; ⟨n, k _ _ (by nofun) (Ne.symm H.dRP) e⟩
    lin := fun p hp => (H.lin p hp).but (.inr ⟨_, eR, .inl rfl⟩) k
    pla := fun p hp => (H.pla p hp).but (H.dp p hp).2.1 k }

/-- the list of opened lines is written -/
theorem Hp.wO (H : Hp w B aO aR aP mg op rw lines pls h) (k : ∀ b ob, ob.cls ≠ .none → b ≠ aO → h.get? b = some ob → h'.get? b = some ob) {op' : List Addr} (e : ∃ n, h'.get? aO = some (listOf (op'.map Value.ref).toArray n)) : Hp w B aO aR aP mg op' rw lines pls h' := by
  obtain ⟨n, eO⟩ := H.oO
  exact { H with
    oO := e
    oR := let ⟨n, e⟩ := H.oR; ⟨n, k _ _ (by nofun) (Ne.symm H.dOR) e⟩
    oP := let ⟨n, e⟩ := H.oP; ⟨n, k _ _ (by nofun) (Ne.symm H.dOP) e⟩
    lin := fun p hp => (H.lin p hp).but (.inr ⟨_, eO, .inl rfl⟩) k
    pla := fun p hp => (H.pla p hp).but (H.dp p hp).1 k }

/-- a new line stands -/
theorem Hp.line (H : Hp w B aO aR aP mg op rw lines pls h) {a : Addr} {ws : List Str} (L : LineOver B h a mg ws) (hn : ∀ p ∈ lines, p.1 ≠ a) : Hp w B aO aR aP mg op rw (lines ++ [(a, ws)]) pls h :=
  { H with
    ndl := by
      rw [List.map_append]
      refine List.nodup_append.mpr ⟨H.ndl, by simp, ?_⟩
      intro x hx y hy
      obtain ⟨p, hp, rfl⟩ := List.mem_map.mp hx
      rw [List.map_cons, List.map_nil, List.mem_singleton] at hy
      rw [hy]
      exact hn p hp
    lin := fun p hp => by
      rcases List.mem_append.mp hp with hp | hp
      · exact H.lin p hp
      · rw [List.mem_singleton.mp hp]; exact L }

theorem mid_ne {α β : Type} {u v : List (α × β)} {a : α} {x : β} (h : ((u ++ (a, x) :: v).map (·.1)).Nodup) : ∀ p, p ∈ u ∨ p ∈ v → p.1 ≠ a := by
  rw [List.map_append, List.map_cons] at h
  obtain ⟨_, h2, h3⟩ := List.nodup_append.mp h
  obtain ⟨h4, _⟩ := List.nodup_cons.mp h2
  rintro p (hp | hp) rfl
  · exact h3 _ (List.mem_map_of_mem (f := (·.1)) hp) _ List.mem_cons_self rfl
  · exact h4 (List.mem_map_of_mem (f := (·.1)) hp)

/-- a line is written -/
theorem Hp.wL {l1 l2 : List (Addr × List Str)} {a : Addr} {ws ws' : List Str} (H : Hp w B aO aR aP mg op rw (l1 ++ (a, ws) :: l2) pls h) (k : ∀ b ob, ob.cls ≠ .none → b ≠ a → h.get? b = some ob → h'.get? b = some ob) (L : LineOver B h' a mg ws') :
    Hp w B aO aR aP mg op rw (l1 ++ (a, ws') :: l2) pls h' := by
  obtain ⟨_, d, Ts, n, y, _⟩ := H.lin (a, ws) (by simp)
  have na : ∀ {b : Addr} {its : Array Value} {m : Nat}, h.get? b = some (listOf its m) → b ≠ a := by
    rintro b its m e rfl
    have := y.at_.symm.trans e
    injection this with this
    injection this with this
    cases this
  have hne := mid_ne H.ndl
  exact { H with
    ndl := by
      have := H.ndl
      rw [List.map_append, List.map_cons] at this ⊢
      exact this
    oO := let ⟨n, e⟩ := H.oO; ⟨n, k _ _ (by nofun) (na e) e⟩
    oR := let ⟨n, e⟩ := H.oR; ⟨n, k _ _ (by nofun) (na e) e⟩
    oP := let ⟨n, e⟩ := H.oP; ⟨n, k _ _ (by nofun) (na e) e⟩
    lin := fun p hp => by
      have go : p ∈ l1 ∨ p ∈ l2 → LineOver B h' p.1 mg p.2 := fun hp => by
        refine (H.lin p ?_).but (.inr ⟨_, y.at_, .inr ⟨rfl, Ne.symm (hne p hp)⟩⟩) k
        rcases hp with hp | hp
        · exact List.mem_append_left _ hp
        · exact List.mem_append_right _ (List.mem_cons_of_mem _ hp)
      rcases List.mem_append.mp hp with hp | hp
      · exact go (.inl hp)
      · rcases List.mem_cons.mp hp with rfl | hp
        · exact L
        · exact go (.inr hp)
    pla := fun p hp => let ⟨vs, n, e, q⟩ := H.pla p hp; ⟨vs, n, k _ _ (by nofun) (na e) e, q⟩ }

/-- a plain list of words is written -/
theorem Hp.wp {q1 q2 : List (Addr × List Str)} {a : Addr} {ws ws' : List Str} (H : Hp w B aO aR aP mg op rw lines (q1 ++ (a, ws) :: q2) h) (k : ∀ b ob, ob.cls ≠ .none → b ≠ a → h.get? b = some ob → h'.get? b = some ob) (L : StrsAt h' a ws') :
    Hp w B aO aR aP mg op rw lines (q1 ++ (a, ws') :: q2) h' := by
  have ma : (a, ws) ∈ q1 ++ (a, ws) :: q2 := by simp
  obtain ⟨vs, n, ea, _⟩ := H.pla _ ma
  obtain ⟨d1, d2, d3⟩ := H.dp _ ma
  have hne := mid_ne H.ndp
  have em : (q1 ++ (a, ws') :: q2).map (·.1) = (q1 ++ (a, ws) :: q2).map (·.1) := by simp
  have sub : ∀ {P : Addr → Prop}, (∀ p, p ∈ q1 ++ (a, ws) :: q2 → P p.1) → ∀ p ∈ q1 ++ (a, ws') :: q2, P p.1 := fun {P} f p hp => by
    rcases List.mem_append.mp hp with hp | hp
    · exact f p (List.mem_append_left _ hp)
    · rcases List.mem_cons.mp hp with rfl | hp
      · exact f (a, ws) ma
      · exact f p (List.mem_append_right _ (List.mem_cons_of_mem _ hp))
  exact { H with
    bp := sub (P := fun x => @LE.le Nat _ B x) H.bp
    dp := sub (P := fun x => x ≠ aO ∧ x ≠ aR ∧ x ≠ aP) H.dp
    ndp := em ▸ H.ndp
    oO := let ⟨n, e⟩ := H.oO; ⟨n, k _ _ (by nofun) (Ne.symm d1) e⟩
    oR := let ⟨n, e⟩ := H.oR; ⟨n, k _ _ (by nofun) (Ne.symm d2) e⟩
    oP := by
      obtain ⟨n, e⟩ := H.oP
      exact ⟨n, em ▸ k _ _ (by nofun) (Ne.symm d3) e⟩
    lin := fun p hp => (H.lin p hp).but (.inr ⟨_, ea, .inl rfl⟩) k
    pla := fun p hp => by
      have go : p ∈ q1 ∨ p ∈ q2 → StrsAt h' p.1 p.2 := fun hp => by
        refine (H.pla p ?_).but (hne p hp) k
        rcases hp with hp | hp
        · exact List.mem_append_left _ hp
        · exact List.mem_append_right _ (List.mem_cons_of_mem _ hp)
      rcases List.mem_append.mp hp with hp | hp
      · exact go (.inl hp)
      · rcases List.mem_cons.mp hp with rfl | hp
        · exact L
        · exact go (.inr hp) }

/-- the list of plain lists gets one more -/
theorem Hp.wP (H : Hp w B aO aR aP mg op rw lines pls h) (k : ∀ b ob, ob.cls ≠ .none → b ≠ aP → h.get? b = some ob → h'.get? b = some ob) {a : Addr} {ws : List Str} (L : StrsAt h' a ws) (hB : @LE.le Nat _ B a) (hO : a ≠ aO) (hR : a ≠ aR) (hP : a ≠ aP)
    (hn : ∀ p ∈ pls, p.1 ≠ a) (e : ∃ n, h'.get? aP = some (listOf (((pls ++ [(a, ws)]).map (·.1)).map Value.ref).toArray n)) : Hp w B aO aR aP mg op rw lines (pls ++ [(a, ws)]) h' := by
  obtain ⟨n, eP⟩ := H.oP
  exact { H with
    bp := fun p hp => by
      rcases List.mem_append.mp hp with hp | hp
      · exact H.bp p hp
      · rw [List.mem_singleton.mp hp]; exact hB
    dp := fun p hp => by
      rcases List.mem_append.mp hp with hp | hp
      · exact H.dp p hp
      · rw [List.mem_singleton.mp hp]; exact ⟨hO, hR, hP⟩
    ndp := by
      rw [List.map_append]
      refine List.nodup_append.mpr ⟨H.ndp, by simp, ?_⟩
      intro x hx y hy
      obtain ⟨p, hp, rfl⟩ := List.mem_map.mp hx
      rw [List.map_cons, List.map_nil, List.mem_singleton] at hy
      rw [hy]
      exact hn p hp
    oO := let ⟨n, e⟩ := H.oO; ⟨n, k _ _ (by nofun) H.dOP e⟩
    oR := let ⟨n, e⟩ := H.oR; ⟨n, k _ _ (by nofun) H.dRP e⟩
    oP := e
    lin := fun p hp => (H.lin p hp).but (.inr ⟨_, eP, .inl rfl⟩) k
    pla := fun p hp => by
      rcases List.mem_append.mp hp with hp | hp
      · exact (H.pla p hp).but (H.dp p hp).2.2 k
      · rw [List.mem_singleton.mp hp]; exact L }

/-- the row, for the bisections -/
theorem Hp.rowIs {rs : List (Addr × List Str)} (H : Hp w B aO aR aP mg op (rs.map (·.1)) lines pls h) (hp : ∀ p ∈ rs, p ∈ lines) : RowIs h aR mg (rs.map (·.1)) (fun i => match rs[i]? with | some p => p.2 | none => []) := by
  refine ⟨H.oR, fun i a e => ?_⟩
  rw [List.getElem?_map] at e
  cases q : rs[i]? with
  | none => rw [q] at e; cases e
  | some p =>
    rw [q] at e
    cases e
    simp only [q]
    exact (H.lin p (hp p (List.mem_of_getElem? q))).at'
end
end Mine
end

section
open PySem PySem.W PyProof.Rows PySem.Calls
set_option maxRecDepth 100000
namespace Mine
section
variable {prog : Program} {w : World} {A : Around} {E : Value → Shared → Prop} {s : Shared} {env : Env}

/-- for k, x in enumerate(a list): the body may do as it will -/
theorem enum_loop {R : Result → Shared → Prop} {xi xv : Str} {pi pv pt : Pos} {x1} {body : List Stmt} {e it l : Addr} {items : Array Value}
    (hh : A.handled = none) (hxi : env.kindOf xi = some .local) (hxv : env.kindOf xv = some .local)
    (hp : (env.scope.kind == .class || (env.scope.kind == .module && env.locals != env.globals)) = false)
    (hei : e ≠ it) (heL : e ≠ env.locals) (hiL : it ≠ env.locals) (hlL : l ≠ env.locals) (hle : l ≠ e) (hli : l ≠ it)
    (J : Nat → Shared → Prop)
    (hJ : ∀ i s', J i s' → (∃ old, IsEnum s'.heap e it (i : Nat) old) ∧ s'.heap.IsListIter it l i ∧ s'.heap.IsList l items ∧ (∃ m, s'.heap.Ns env.locals m) ∧ i ≤ items.size)
    (h0 : J 0 s)
    (step : ∀ i v m s₁ h₅ tk tk2, items[i]? = some v → J i s₁ → s₁.heap.Ns env.locals m → h₅.Ns env.locals (fun y => if y = xv then some v else if y = xi then some (.int (i : Nat) tk) else m y) →
      (∃ old, IsEnum h₅ e it ((i + 1 : Nat) : Int) old) → h₅.IsListIter it l (i + 1) → h₅.IsList l items → (∀ b o, b ≠ env.locals → b ≠ e → b ≠ it → s₁.heap.get? b = some o → h₅.get? b = some o) →
      wpAny (model prog w) A (execs body env) (fun f s₂ => f = .next ∧ J (i + 1) s₂) (notedBy (model prog w) A env fun e s' => R (.error e) s') { s₁ with heap := h₅, toks := tk2 })
    (hR : ∀ s' h', J items.size s' → (∀ b o, b ≠ it → s'.heap.get? b = some o → h'.get? b = some o) → R (.ok .next) { s' with heap := h' }) :
    codeAny (model prog w) A (.forLoop (.Tuple [.Name xi pi, .Name xv pv] x1 pt) (.ref e) body [] env) R s := by
  refine codeAny_forLoop_any (fun k s' => ∃ i, J i s' ∧ i ≤ items.size ∧ k = items.size + 1 - i) ?_ (items.size + 1) ⟨0, h0, Nat.zero_le _, rfl⟩
  rintro k s' ⟨i, hJi, hi, rfl⟩
  obtain ⟨⟨old, he'⟩, hit', hl', ⟨m', hn'⟩, _⟩ := hJ i s' hJi
  cases hv : items[i]? with
  | none =>
    have hsz : i = items.size := Nat.le_antisymm hi (by simpa using hv)
    refine wpAny_pyNext_enum_end hh he' hit' hl' hv fun h₁ he₁ => wpAny_execs_nil ?_
    exact hR s' h₁ (hsz ▸ hJi) fun b o hb x => he₁ b o hb x
  | some v =>
    have hlt : i < items.size := (Array.getElem?_eq_some_iff.mp hv).1
    have heH : e < s'.heap.objs.size := Heap.lt_size he'
    have hLH : env.locals < s'.heap.objs.size := hn'.lt
    obtain ⟨oi, hoi, _⟩ := id hit'
    obtain ⟨ol, hol, _⟩ := id hl'
    have hiH : it < s'.heap.objs.size := Heap.lt_size hoi
    have hlH : l < s'.heap.objs.size := Heap.lt_size hol
    refine wpAny_pyNext_enum_item he' hit' hl' hv hei fun h₁ heo hit₁ ht₁ hz₁ hk₁ => ?_
    refine wpAny_letOwnedTupleGo_enum heo fun h₂ he₂ hs₂ => ?_
    replace hs₂ : Heap.SameBut e h₁ h₂ := hs₂
    have ht₂ : h₂.IsTuple s'.heap.objs.size #[.int i s'.toks, v] := ⟨_, (hs₂.2 _ (Nat.ne_of_gt heH)).trans ht₁, rfl, _, rfl⟩
    have hz₂ : h₂.objs.size = s'.heap.objs.size + 1 := hs₂.1.trans hz₁
    refine wpAny_assign_Tuple hh ht₂ rfl rfl fun h₃ hx₃ => ?_
    replace hx₃ : Heap.ExtBut h₂.objs.size h₂ h₃ := hx₃
    have old₃ : ∀ b o, b < s'.heap.objs.size → h₂.get? b = some o → h₃.get? b = some o := fun b o hb x => hx₃ b o (by rw [hz₂]; exact Nat.ne_of_lt (Nat.lt_succ_of_lt hb)) x
    have hn₃ : h₃.Ns env.locals m' := (hn'.at fun o x => hk₁ _ o (Ne.symm heL) (Ne.symm hiL) x).sameBut hs₂ (Ne.symm heL) |>.at fun o x => old₃ _ o hLH x
    show wpAny _ A (do holding [v] (assign (.Name xi pi) env (.int i s'.toks)); do holding [] (assign (.Name xv pv) env v); pure ()) _ _ _
    refine wpAny_bind (wpAny_holding (wpAny_assign_Name (wpAny_storeName_local hxi hn₃ (fun h₄ hn₄ hs₄ => ?_) hp)))
    replace hs₄ : Heap.SameBut env.locals h₃ h₄ := hs₄
    refine wpAny_bind (wpAny_holding (wpAny_assign_Name (wpAny_storeName_local hxv hn₄ (fun h₅ hn₅ hs₅ => wpAny_pure ?_) hp)))
    replace hs₅ : Heap.SameBut env.locals h₄ h₅ := hs₅
    have up : ∀ b o, b ≠ env.locals → b < s'.heap.objs.size → h₂.get? b = some o → h₅.get? b = some o := fun b o hbL hb x =>
      hs₅.extBut b o hbL (hs₄.extBut b o hbL (old₃ b o hb x))
    refine wpAny_mono (step i v m' s' h₅ s'.toks _ hv hJi hn' hn₅ ⟨v, ?_⟩ ?_ ?_ (fun b o hbL hbe hbi x => ?_)) (fun f s₃ h₆ => ?_) fun _ _ x => x
    · have : ((i + 1 : Nat) : Int) = (i : Int) + 1 := by push_cast; rfl
      rw [this]; exact up e _ heL heH he₂
    · exact (hit₁.extBut hs₂.extBut (Ne.symm hei)).at fun o x => up it o hiL hiH x
    · exact ((hl'.at fun o x => hk₁ l o hle hli x).extBut hs₂.extBut hle).at fun o x => up l o hlL hlH x
    · exact up b o hbL (Heap.lt_size x) (hs₂.extBut b o hbe (hk₁ b o hbe hbi x))
    · obtain ⟨rfl, hJ'⟩ := h₆
      exact ⟨items.size + 1 - (i + 1), by omega, i + 1, hJ', hlt, rfl⟩
end
end Mine
end

section
open PySem PySem.W PyProof.Rows PySem.Calls
set_option maxRecDepth 100000
namespace Mine

/-- the law's own body and scope, taken from the given program -/
def lawParts : List Stmt × Scope := match PySem.Challenge.pw_pm0024_01.main.body.getLast? with
  | some (.FunctionDef _ _ body _ _ _ scope _ _ _) => (body, scope)
  | _ => ([], default)
def lawBody : List Stmt := lawParts.1
def lawScope : Scope := lawParts.2
/-- one turn of its loop -/
def turnBody : List Stmt := match (lawBody.drop 10).head? with
  | some (Stmt.For _ _ body _ _) => body
  | _ => []
abbrev lenv (L : Addr) : Env := { scope := lawScope, locals := L, globals := 3, cells := [(Str.ofString "need", L + 3), (Str.ofString "margin", L + 2), (Str.ofString "room", L + 1)], qual := Str.ofString "law.<locals>.", func := some 149, code := .ref 148, frame := some L, builtins := builtinsNs }

theorem env_law (w : World) (L : Addr) : ∃ oc od fd osl, (KK w).lookup 149 = some ⟨oc, od, .func fd, osl⟩ ∧ fd.body = .stmts lawBody ∧ callEnvC fd L 149 = lenv L ∧ fd.closure = [] ∧ fd.scope = lawScope :=
  ⟨_, _, _, _, by rfl, by rfl, by rfl, by rfl, by rfl⟩

/-- how the law's own addresses lie -/
structure Ap (B L aO aR aP e : Nat) : Prop where
  l150 : 150 ≤ L
  lO : L + 3 < aO
  oR : aO < aR
  rP : aR < aP
  pe : aP < e
  eB : e < B

structure St (w : World) (s₀ : Shared) (B L aO aR aP e : Addr) (mg rm : Int) (nd : Option Int) (m : Str → Option Value) (op rw : List Addr) (lines pls : List (Addr × List Str)) (s : Shared) : Prop where
  ap : Ap B L aO aR aP e
  gd : Gd w s.heap
  ns : s.heap.Ns L m
  cR : ∃ t, s.heap.IsCell (L + 1) (some (.int rm t))
  cM : ∃ t, s.heap.IsCell (L + 2) (some (.int mg t))
  cN : ∃ v, s.heap.IsCell (L + 3) v ∧ ∀ n, nd = some n → ∃ t, v = some (.int n t)
  hp : Hp w B aO aR aP mg op rw lines pls s.heap
  kt : ∀ b o, @LT.lt Nat _ b B → b ≠ 90 → b ≠ 97 → b ≠ L → b ≠ L + 3 → b ≠ aO → b ≠ aR → b ≠ aP → s₀.heap.get? b = some o → s.heap.get? b = some o
  he : ∃ o, s₀.heap.get? e = some o
  gens : AllBare s₀.gens → AllBare s.gens
  os : s.os = s₀.os

section
variable {w : World} {s₀ s s' : Shared} {B L aO aR aP e r : Addr} {mg rm : Int} {nd nd' : Option Int} {m m' : Str → Option Value} {op rw op' rw' : List Addr} {lines pls lines' pls' : List (Addr × List Str)}

theorem St.room (x : St w s₀ B L aO aR aP e mg rm nd m op rw lines pls s) : ∃ o, s.heap.get? e = some o := by
  obtain ⟨o, h⟩ := x.he
  obtain ⟨a1, a2, a3, a4, a5, a6⟩ := x.ap
  have ne : ∀ {x y : Nat}, y < x → x ≠ y := fun h => Nat.ne_of_gt h
  exact ⟨o, x.kt e o a6 (ne (by omega)) (ne (by omega)) (ne (by omega)) (ne (by omega)) (ne (by omega)) (ne (by omega)) (ne (by omega)) h⟩

/-- one written object -/
theorem St.kx (x : St w s₀ B L aO aR aP e mg rm nd m op rw lines pls s) (k : Kx w r s s') (hr : r = L ∨ r = L + 3 ∨ r = aO ∨ r = aR ∨ r = aP ∨ @LE.le Nat _ B r) (hn : s'.heap.Ns L m')
    (hc : ∃ v, s'.heap.IsCell (L + 3) v ∧ ∀ n, nd' = some n → ∃ t, v = some (.int n t)) (h : Hp w B aO aR aP mg op' rw' lines' pls' s'.heap) : St w s₀ B L aO aR aP e mg rm nd' m' op' rw' lines' pls' s' := by
  obtain ⟨a1, a2, a3, a4, a5, a6⟩ := x.ap
  have n1 : ∀ {b : Nat}, b = L + 1 ∨ b = L + 2 → (b : Addr) ≠ r ∧ (b : Addr) ≠ 90 ∧ (b : Addr) ≠ 97 := by
    intro b hb
    have h1 : b < aO := by omega
    refine ⟨?_, Nat.ne_of_gt (by omega), Nat.ne_of_gt (by omega)⟩
    rintro rfl
    rcases hr with h | h | h | h | h | h
    · have : b = L := h; omega
    · have : b = L + 3 := h; omega
    · have : b = aO := h; omega
    · have : b = aR := h; omega
    · have : b = aP := h; omega
    · have : B ≤ b := h; omega
  refine ⟨x.ap, k.gd x.gd, hn, ?_, ?_, hc, h, ?_, x.he, fun g => k.gens (x.gens g), k.os.trans x.os⟩
  · obtain ⟨t, o, e, d⟩ := x.cR
    obtain ⟨q1, q2, q3⟩ := n1 (.inl rfl)
    exact ⟨t, o, k.keep _ _ q2 q3 q1 e, d⟩
  · obtain ⟨t, o, e, d⟩ := x.cM
    obtain ⟨q1, q2, q3⟩ := n1 (.inr rfl)
    exact ⟨t, o, k.keep _ _ q2 q3 q1 e, d⟩
  · intro b o hb b1 b2 b3 b4 b5 b6 b7 e
    refine k.keep b o b1 b2 ?_ (x.kt b o hb b1 b2 b3 b4 b5 b6 b7 e)
    rcases hr with rfl | rfl | rfl | rfl | rfl | h
    · exact b3
    · exact b4
    · exact b5
    · exact b6
    · exact b7
    · exact Nat.ne_of_lt (Nat.lt_of_lt_of_le hb h)

theorem Ns.keepK {w : World} {s s' : Shared} {L r : Addr} {m : Str → Option Value} (h : s.heap.Ns L m) (k : Kx w r s s') (h1 : L ≠ 90) (h2 : L ≠ 97) (h3 : L ≠ r) : s'.heap.Ns L m :=
  let ⟨o, es, ep, e, q⟩ := h; ⟨o, es, ep, k.keep _ _ h1 h2 h3 e, q⟩

theorem St.lne (x : St w s₀ B L aO aR aP e mg rm nd m op rw lines pls s) : L ≠ 90 ∧ L ≠ 97 ∧ (L + 3 : Addr) ≠ 90 ∧ (L + 3 : Addr) ≠ 97 := by
  obtain ⟨a1, _⟩ := x.ap
  exact ⟨Nat.ne_of_gt (by omega), Nat.ne_of_gt (by omega), Nat.ne_of_gt (by omega), Nat.ne_of_gt (by omega)⟩

theorem St.cN' (x : St w s₀ B L aO aR aP e mg rm nd m op rw lines pls s) (k : Kx w r s s') (h3 : (L + 3 : Addr) ≠ r) : ∃ v, s'.heap.IsCell (L + 3) v ∧ ∀ n, nd = some n → ∃ t, v = some (.int n t) := by
  obtain ⟨v, ⟨o, e, d⟩, q⟩ := x.cN
  exact ⟨v, ⟨o, k.keep _ _ x.lne.2.2.1 x.lne.2.2.2 h3 e, d⟩, q⟩

/-- a read-only step -/
theorem St.kp (x : St w s₀ B L aO aR aP e mg rm nd m op rw lines pls s) (k : Kp w s s') : St w s₀ B L aO aR aP e mg rm nd m op rw lines pls s' := by
  obtain ⟨a1, a2, a3, a4, a5, a6⟩ := x.ap
  obtain ⟨o, es, ep, q, r⟩ := x.ns
  obtain ⟨v, ⟨oc, ec, d⟩, qn⟩ := x.cN
  refine x.kx (r := L) k.x (.inl rfl) ⟨o, es, ep, k.keep _ _ x.lne.1 x.lne.2.1 q, r⟩ ⟨v, ⟨oc, k.keep _ _ x.lne.2.2.1 x.lne.2.2.2 ec, d⟩, qn⟩ (x.hp.low (r := L) (by show @LT.lt Nat _ L B; omega) (Nat.ne_of_lt (by omega)) (Nat.ne_of_lt (by omega)) (Nat.ne_of_lt (by omega)) fun b o hc _ e => k.cls x.gd hc e)

/-- a local is stored -/
theorem St.loc (x : St w s₀ B L aO aR aP e mg rm nd m op rw lines pls s) {h' : Heap} {tk : Nat} (hn : h'.Ns L m') (hs : Heap.SameBut L s.heap h') : St w s₀ B L aO aR aP e mg rm nd m' op rw lines pls { s with heap := h', toks := tk } := by
  obtain ⟨a1, a2, a3, a4, a5, a6⟩ := x.ap
  have k : Kx w L s { s with heap := h', toks := tk } := Kx.of a1 hs
  exact x.kx k (.inl rfl) hn (x.cN' k (Nat.ne_of_gt (by omega))) (x.hp.low (r := L) (by show @LT.lt Nat _ L B; omega) (Nat.ne_of_lt (by omega)) (Nat.ne_of_lt (by omega)) (Nat.ne_of_lt (by omega)) fun b o hc hb e => k.cls x.gd hb hc e)

/-- need is stored -/
theorem St.need (x : St w s₀ B L aO aR aP e mg rm nd m op rw lines pls s) {h' : Heap} {tk : Nat} {n : Int} {t : Tok} (hn : h'.IsCell (L + 3) (some (.int n t))) (hs : Heap.SameBut (L + 3) s.heap h') : St w s₀ B L aO aR aP e mg rm (some n) m op rw lines pls { s with heap := h', toks := tk } := by
  obtain ⟨a1, a2, a3, a4, a5, a6⟩ := x.ap
  have k : Kx w (L + 3) s { s with heap := h', toks := tk } := Kx.of (by show @LE.le Nat _ 150 (L + 3); omega) hs
  exact x.kx k (.inr (.inl rfl)) (Ns.keepK x.ns k x.lne.1 x.lne.2.1 (Nat.ne_of_lt (by omega))) ⟨_, hn, fun n e => by cases e; exact ⟨_, rfl⟩⟩ (x.hp.low (r := L + 3) (by show @LT.lt Nat _ (L + 3) B; omega) (Nat.ne_of_lt (by omega)) (Nat.ne_of_lt (by omega)) (Nat.ne_of_lt (by omega)) fun b o hc hb e => k.cls x.gd hb hc e)

/-- an object of the law's heap is written -/
theorem St.own (x : St w s₀ B L aO aR aP e mg rm nd m op rw lines pls s) (k : Kx w r s s') (hr : r = aO ∨ r = aR ∨ r = aP ∨ @LE.le Nat _ B r) (h : Hp w B aO aR aP mg op' rw' lines' pls' s'.heap) : St w s₀ B L aO aR aP e mg rm nd m op' rw' lines' pls' s' := by
  obtain ⟨a1, a2, a3, a4, a5, a6⟩ := x.ap
  have lt : @LT.lt Nat _ (L + 3) r := by
    rcases hr with rfl | rfl | rfl | h
    · exact a2
    · exact Nat.lt_trans a2 a3
    · exact Nat.lt_trans a2 (Nat.lt_trans a3 a4)
    · have : @LE.le Nat _ B r := h
      show @LT.lt Nat _ (L + 3) r
      omega
  exact x.kx k (.inr (.inr hr)) (Ns.keepK x.ns k x.lne.1 x.lne.2.1 (Nat.ne_of_lt (Nat.lt_of_le_of_lt (Nat.le_add_right L 3) lt))) (x.cN' k (Nat.ne_of_lt lt)) h
end
end Mine
end

section
open PySem PySem.W PyProof.Rows PySem.Calls
set_option maxRecDepth 100000
namespace Mine
section
variable {prog : Program} {w : World} {A : Around} {E : Value → Shared → Prop} {s : Shared}

/-- from here on the state is any that is so -/
theorem any_state {α : Type} {M : Model} {P : Shared → Prop} {t : Sem α} {Q : α → Shared → Prop} (hs : P s) (h : ∀ s', P s' → wpAny M A t Q E s') : wpAny M A t Q E s := h s hs

theorem any_state' {M : Model} {P : Shared → Prop} {c : Code} {R : Result → Shared → Prop} (hs : P s) (h : ∀ s', P s' → codeAny M A c R s') : codeAny M A c R s := h s hs

theorem mul_char (n : Int) (ch : Nat) (hn : 1 ≤ n ∧ n ≤ 100) : ∃ y : Str, sz y = n ∧ ∀ (s : Shared) (t1 t2 : Tok) (Q : Value → Shared → Prop), (∀ t tk, Q (.str y t) { s with toks := tk }) → wpAny (model prog w) A (binaryOp .Mult (.str ⟨#[ch]⟩ t1) (.int (n - 1) t2)) Q E s := by
  by_cases h1 : n - 1 < 1
  · refine ⟨Str.empty, ?_, fun s t1 t2 Q h => ?_⟩
    · show 1 + ((Str.empty.length : Nat) : Int) = n
      have : Str.empty.length = 0 := rfl
      omega
    · exact PySem.P.mul_str_none h1 (by omega) (h _ _)
  by_cases h2 : n - 1 = 1
  · refine ⟨⟨#[ch]⟩, ?_, fun s t1 t2 Q h => ?_⟩
    · show 1 + ((1 : Nat) : Int) = n
      omega
    · refine PySem.P.mul_str (by rw [h2]; decide) (fun _ h => by rw [h2] at h; simp at h) (fun _ h => by rw [h2] at h; simp at h) ?_
      rw [if_neg h1, h2, if_pos (by rfl)]
      exact h _ _
  · refine ⟨⟨(List.replicate (n - 1).toNat #[ch]).foldl (· ++ ·) #[]⟩, ?_, fun s t1 t2 Q h => ?_⟩
    · have hl : ∀ (k : Nat) (acc : Array Nat), ((List.replicate k #[ch]).foldl (· ++ ·) acc).size = acc.size + k := by
        intro k
        induction k with
        | zero => intro acc; rfl
        | succ k ih =>
          intro acc
          rw [List.replicate_succ, List.foldl_cons, ih, Array.size_append]
          show acc.size + 1 + k = _
          omega
      show 1 + ((((List.replicate (n - 1).toNat #[ch]).foldl (· ++ ·) #[]).size : Nat) : Int) = n
      rw [hl]
      simp only [List.size_toArray, List.length_nil]
      omega
    · have hne : (n - 1 == 1 || (Str.mk #[ch]).length == 0) = false := by
        have a1 : (n - 1 == 1) = false := by rw [beq_eq_false_iff_ne]; exact h2
        rw [a1]
        rfl
      have hlen : (Str.mk #[ch]).length = 1 := rfl
      have hfit : ((List.replicate (n - 1).toNat #[ch]).foldl (· ++ ·) (#[] : Array Nat)).size ≤ 100 := by
        have hl : ∀ (k : Nat) (acc : Array Nat), ((List.replicate k #[ch]).foldl (· ++ ·) acc).size = acc.size + k := by
          intro k
          induction k with
          | zero => intro acc; rfl
          | succ k ih =>
            intro acc
            rw [List.replicate_succ, List.foldl_cons, ih, Array.size_append]
            show acc.size + 1 + k = _
            omega
        rw [hl]
        simp only [List.size_toArray, List.length_nil]
        omega
      refine PySem.P.mul_str (by
          have a1 : ¬ n - 1 < -(2 ^ 63 : Int) := by omega
          have a2 : ¬ n - 1 ≥ 2 ^ 63 := by omega
          rw [decide_eq_false a1, decide_eq_false a2]; rfl) (fun _ _ => ?_) (fun _ _ => ?_) ?_
      · rw [hlen]
        have : (1 : Int) ≤ (2 ^ 63 - 1) / (n - 1) := by
          rw [Int.le_ediv_iff_mul_le (by omega)]
          omega
        show ¬ ((1 : Nat) : Int) > _
        omega
      · rw [hlen]
        unfold Builtin.Str.tooLong
        rw [decide_eq_false_iff_not, sizeLine_eq]
        omega
      · rw [if_neg h1, hne, if_neg (by decide)]
        exact ⟨Nat.le_trans hfit (by rw [sizeLine_eq]; decide), h _ _⟩

theorem sub_BinOp {env : Env} {value : Expr} {l r : Expr} {op : Operator} {p : Pos} {pos : Pos} {Q : Value → Shared → Prop}
    (h : wpAny (model prog w) A (eval value env) (fun o s₁ => wpAny (model prog w) A (eval (.BinOp l op r p) env) (fun i s₂ => SubscriptOn (model prog w) A o i Q E s₂) E s₁) E s) :
    wpAny (model prog w) A (eval (.Subscript value (.BinOp l op r p) pos) env) Q E s := by
  rw [eval_Subscript]
  refine wpAny_bind (wpAny_mono h (fun o s₁ h₁ => wpAny_bind (wpAny_holding (wpAny_mono h₁ (fun i s₂ h₂ => wpAny_bind (wpAny_standAt ?_)) fun _ _ x => x)))
    fun _ _ x => x)
  obtain ⟨T, id, hl, hT, hg⟩ := h₂
  refine wpAny_bind ?_
  rw [getitemInPython_of_ne hT.not_modules]
  refine wpAny_bind (wpAny_specialOf hT hl ?_)
  have fin : wpAny (model prog w) A (operate [o, i] (getItem o i)) (fun r s₃ => wpAny (model prog w) A (letTemporaryGo value o r >>= fun _ => pure r) Q E s₃) E s₂ :=
    wpAny_operating (wpAny_mono hg (fun r s₃ h₃ => wpAny_bind (wpAny_letTemporaryGo (wpAny_pure h₃))) fun _ _ x => x)
  first
    | exact wpAny_pure (wpAny_bind fin)
    | exact wpAny_bind (wpAny_pure (wpAny_bind fin))
    | exact wpAny_bind fin

theorem g_chr (w : World) : globK (KK w) "chr" = none := by kernel_rfl
theorem b_chr : bootBuiltins "chr" = some (.builtin "chr") := boot_chr

theorem fmod3 (x : Int) : x.fmod 3 = 0 ∨ x.fmod 3 = 1 ∨ x.fmod 3 = 2 := by
  rw [Int.fmod_eq_emod_of_nonneg _ (by decide)]
  omega

variable {s₀ : Shared} {B L aO aR aP e : Addr} {mg rm : Int} {nd : Option Int} {m : Str → Option Value} {op rw : List Addr} {lines pls : List (Addr × List Str)}

set_option maxHeartbeats 4000000 in
theorem tu_words {a b c T xv : Int} {k : Nat} {Q : Flow → Shared → Prop} (x : St w s₀ B L aO aR aP e mg rm nd m op rw lines pls s) 
    (ha : 1 ≤ a ∧ a ≤ 100) (hb : 1 ≤ b ∧ b ≤ 100) (hc : 1 ≤ c ∧ c ≤ 100) (hk : k ≤ 100)
    (m1 : ∃ t, m "small" = some (.int a t)) (m2 : ∃ t, m "middle" = some (.int b t)) (m3 : ∃ t, m "great" = some (.int c t)) (m4 : ∃ t, m "total" = some (.int T t)) (m5 : ∃ t, m "k" = some (.int (k : Int) t)) (m6 : ∃ t, m "x" = some (.int xv t))
    (h : ∀ (y : Str) m' s', St w s₀ B L aO aR aP e mg rm (some (sz y)) m' op rw lines pls s' → (sz y = a ∨ sz y = b ∨ sz y = c) → (∃ t, m' "word" = some (.str y t)) → (∃ t, m' "total" = some (.int (T + sz y) t)) →
      (∀ z : Str, z ≠ "word" → z ≠ "total" → m' z = m z) → wpAny (model prog w) A (execs (turnBody.drop 3) (lenv L)) Q E s') :
    wpAny (model prog w) A (execs turnBody (lenv L)) Q E s := by
  obtain ⟨t1, m1⟩ := m1
  obtain ⟨t2, m2⟩ := m2
  obtain ⟨t3, m3⟩ := m3
  obtain ⟨t4, m4⟩ := m4
  obtain ⟨t5, m5⟩ := m5
  obtain ⟨t6, m6⟩ := m6
  refine wpAny_execs_cons ?_
  refine wpAny_Assign_Name ?_ ?q1
  case q1 => rfl
  refine sub_BinOp ?_
  refine wpAny_List_spliced ?_
  refine spliced_more ?_ ?q3
  case q3 => rfl
  refine wpAny_Name (wpAny_loadName_local rfl rfl x.ns m1 ?_)
  refine spliced_more ?_ ?q3
  case q3 => rfl
  refine wpAny_Name (wpAny_loadName_local rfl rfl x.ns m2 ?_)
  refine spliced_more ?_ ?q3
  case q3 => rfl
  refine wpAny_Name (wpAny_loadName_local rfl rfl x.ns m3 ?_)
  refine spliced_nil ?_
  refine ⟨Nat.le_trans (by show 3 ≤ 2 ^ 20; decide) sz20, ?_⟩
  have K1 : Kp w s { s with heap := s.heap.push { cls := .type "list", data := .seq #[.int a t1, .int b t2, .int c t3] } } := Kp.of (tk := s.toks) fun b o e => Heap.get?_push_of_some _ e
  have x1 := x.kp K1
  refine wpAny_BinOp ?_
  refine wpAny_Name (wpAny_loadName_local rfl rfl x1.ns m6 ?_)
  refine wpAny_Constant_int ?_
  refine PyProof.Rows.mod_int (by decide) ?_
  have K2 : Kp w s { s with heap := s.heap.push { cls := .type "list", data := .seq #[.int a t1, .int b t2, .int c t3] }, toks := s.toks + 1 } := Kp.of (tk := s.toks + 1) fun b o e => Heap.get?_push_of_some _ e
  have x2 := x.kp K2
  have hl : (s.heap.push { cls := .type "list", data := .seq #[.int a t1, .int b t2, .int c t3] }).IsList s.heap.objs.size #[.int a t1, .int b t2, .int c t3] := ⟨_, Heap.get?_push_size _ rfl, rfl, _, rfl⟩
  obtain ⟨n, tn, hn, hget⟩ : ∃ n tn, (n = a ∨ n = b ∨ n = c) ∧ (#[.int a t1, .int b t2, .int c t3] : Array Value)[(xv.fmod 3).toNat]? = some (.int n tn) := by
    rcases fmod3 xv with h | h | h
    · exact ⟨a, t1, .inl rfl, by rw [h]; rfl⟩
    · exact ⟨b, t2, .inr (.inl rfl), by rw [h]; rfl⟩
    · exact ⟨c, t3, .inr (.inr rfl), by rw [h]; rfl⟩
  have hf := fmod3 xv
  refine ⟨"list", _, slot_list_getitem.lookup, hl.typeIs, ?_⟩
  refine wpAny_getItem_list hl (by omega) (by omega) hget ?_
  obtain ⟨v0, hv0, _⟩ := x2.cN
  refine wpAny_storeName_cell rfl rfl rfl hv0 fun h₃ hn₃ hs₃ => ?_
  have hb1 : 1 ≤ n ∧ n ≤ 100 := by rcases hn with rfl | rfl | rfl <;> assumption
  refine any_state (P := St w s₀ B L aO aR aP e mg rm (some n) m op rw lines pls) (x2.need hn₃ hs₃) fun s3 x3 => ?_
  clear hs₃ hn₃ hv0 hget hl x2 x1 K1 K2 h₃
  -- word
  refine wpAny_execs_cons ?_
  refine wpAny_Assign_Name ?_ ?q1
  case q1 => rfl
  refine wpAny_BinOp ?_
  refine Call_ ?_ ?q1
  case q1 => rfl
  refine nm_builtin x3.gd.toG0 (g_chr w) b_chr ?_
  refine callWith_builtin1 ?_ ?q1 ?q2
  case q1 => rfl
  case q2 => rfl
  refine spliced_more ?_ ?q3
  case q3 => rfl
  refine wpAny_BinOp ?_
  refine wpAny_Constant_int ?_
  refine wpAny_Name (wpAny_loadName_local rfl rfl x3.ns m5 ?_)
  refine PyProof.Rows.add_int ?_
  refine spliced_nil ?_
  refine chr_of_range (by omega) (by omega) ?_
  refine any_state (P := St w s₀ B L aO aR aP e mg rm (some n) m op rw lines pls) (x3.kp (Kp.of fun b o e => e)) fun s4 x4 => ?_
  obtain ⟨vn, hvn, qn⟩ := x4.cN
  obtain ⟨tn, rfl⟩ := qn n rfl
  refine wpAny_BinOp ?_
  refine wpAny_Name (wpAny_loadName_cell rfl rfl rfl hvn ?_)
  refine wpAny_Constant_int ?_
  refine PyProof.Rows.sub_int ?_
  refine any_state (P := St w s₀ B L aO aR aP e mg rm (some n) m op rw lines pls) (x4.kp (Kp.of fun b o e => e)) fun s5 x5 => ?_
  obtain ⟨y, hy, hmul⟩ : ∃ y : Str, sz y = n ∧ ∀ (s : Shared) (t1 t2 : Tok) (Q : Value → Shared → Prop), (∀ t tk, Q (.str y t) { s with toks := tk }) → wpAny (model prog w) A (binaryOp .Mult (.str ⟨#[((97 : Int) + (k : Int)).toNat]⟩ t1) (.int (n - 1) t2)) Q E s := mul_char n _ hb1
  refine hmul _ _ _ _ fun t tk => ?_
  have x6 := x5.kp (Kp.of (tk := tk) fun b o e => e)
  refine wpAny_storeName_local rfl x6.ns (fun h₇ hn₇ hs₇ => ?_) ?q1
  case q1 => rfl
  refine any_state (P := St w s₀ B L aO aR aP e mg rm (some n) (fun z => if z = "word" then some (.str y t) else m z) op rw lines pls) (x6.loc hn₇ hs₇) fun s7 x7 => ?_
  clear hs₇ hn₇ h₇ x6 x5 x4 x3
  -- total
  refine wpAny_execs_cons ?_
  refine wpAny_AugAssign_Name ?_
  refine wpAny_loadName_local rfl rfl x7.ns ((if_neg (by decide)).trans m4) ?_
  obtain ⟨vn, hvn, qn⟩ := x7.cN
  obtain ⟨tn, rfl⟩ := qn n rfl
  refine wpAny_Name (wpAny_loadName_cell rfl rfl rfl hvn ?_)
  refine PyProof.Rows.iadd_int ?_
  refine any_state (P := St w s₀ B L aO aR aP e mg rm (some n) (fun z => if z = "word" then some (.str y t) else m z) op rw lines pls) (x7.kp (Kp.of fun b o e => e)) fun s8 x8 => ?_
  refine wpAny_storeName_local rfl x8.ns (fun h₉ hn₉ hs₉ => ?_) ?q1
  case q1 => rfl
  have x9 := x8.loc (tk := s8.toks + 1) hn₉ hs₉
  subst hy
  exact h y _ _ x9 hn ⟨t, (if_neg (by decide)).trans (if_pos rfl)⟩ ⟨_, if_pos rfl⟩ fun z z1 z2 => (if_neg z2).trans (if_neg z1)
end
end Mine
end

section
open PySem PySem.W PyProof.Rows PySem.Calls
set_option maxRecDepth 100000
namespace Mine

def wof (rs : List (Addr × List Str)) (i : Nat) : List Str := match rs[i]? with | some p => p.2 | none => []

theorem signs_take (ws : List Str) (k : Nat) : signs (ws.take k) ≤ signs ws := by
  have h := signs_append (ws.take k) (ws.drop k)
  rw [List.take_append_drop] at h
  have := signs_nonneg (ws.drop k)
  omega
theorem sz_le {ws : List Str} {x : Str} (h : x ∈ ws) : sz x ≤ signs ws := by
  obtain ⟨u, v, rfl⟩ := List.append_of_mem h
  rw [signs_append, signs_cons]
  have h1 := signs_nonneg u
  have h2 := signs_nonneg v
  omega
theorem len_le (ws : List Str) : (ws.length : Int) ≤ signs ws := by
  induction ws with
  | nil => exact Int.le_refl _
  | cons x u ih =>
    rw [signs_cons, List.length_cons]
    unfold sz
    push_cast
    omega
theorem small_of {mg : Int} {ws : List Str} (h0 : 0 ≤ mg) (h1 : mg ≤ 2) (h2 : signs ws ≤ 200) : Small mg ws := by
  refine ⟨h0, by omega, fun k => ?_, fun x hx => ?_⟩
  · have := signs_take ws k
    omega
  · have := sz_le hx
    unfold sz at this
    omega
theorem wof_mono {rs : List (Addr × List Str)} {mg : Int} (hs : rs.Pairwise (fun x y => signs x.2 ≤ signs y.2)) : ∀ i j, i ≤ j → j < rs.length → mg + signs (wof rs i) ≤ mg + signs (wof rs j) := by
  intro i j hij hj
  have hi : i < rs.length := by omega
  unfold wof
  rw [List.getElem?_eq_getElem hi, List.getElem?_eq_getElem hj]
  dsimp only
  by_cases h : i = j
  · subst h; exact Int.le_refl _
  · have := List.pairwise_iff_getElem.mp hs i j hi hj (by omega)
    omega

section
variable {prog : Program} {w : World} {A : Around} {E : Value → Shared → Prop} {s : Shared}
theorem g_bir (w : World) : globK (KK w) "bisect_right" = some (.ref 39) := by kernel_rfl
theorem g_bil (w : World) : globK (KK w) "bisect_left" = some (.ref 48) := by kernel_rfl
theorem g_tk (w : World) : globK (KK w) "_law_taken" = some (.ref 139) := by kernel_rfl

variable {s₀ : Shared} {B L aO aR aP e : Addr} {mg rm : Int} {nd : Option Int} {m : Str → Option Value} {op : List Addr} {rs lines pls : List (Addr × List Str)}

set_option maxHeartbeats 8000000 in
theorem tu_bis {n : Int} {Q : Flow → Shared → Prop} (x : St w s₀ B L aO aR aP e mg rm (some n) m op (rs.map (·.1)) lines pls s) (hh : A.handled = none) (hr : A.depth + 8 < recursionLimit)
    (hmg : 0 ≤ mg ∧ mg ≤ 2) (hrm : 0 ≤ rm ∧ rm ≤ 100) (hn : 1 ≤ n ∧ n ≤ 100) (hlen : rs.length < 2 ^ 20) (hin : ∀ p ∈ rs, p ∈ lines) (hle : ∀ p ∈ lines, signs p.2 ≤ 100) (hs : rs.Pairwise (fun x y => signs x.2 ≤ signs y.2))
    (m1 : m "row" = some (.ref aR))
    (h : ∀ (k : Nat) m' s', St w s₀ B L aO aR aP e mg rm (some n) m' op (rs.map (·.1)) lines pls s' → k ≤ rs.length → (∀ j, j < k → signs (wof rs j) ≤ rm - n) → (∀ j, k ≤ j → j < rs.length → rm - n < signs (wof rs j)) →
      (∃ t, m' "at" = some (.int (k : Int) t)) → (∀ z : Str, z ≠ "at" → m' z = m z) → wpAny (model prog w) A (execs (turnBody.drop 5) (lenv L)) Q E s') :
    wpAny (model prog w) A (execs (turnBody.drop 3) (lenv L)) Q E s := by
  obtain ⟨tr, hR⟩ := x.cR
  obtain ⟨tm, hM⟩ := x.cM
  obtain ⟨vn, hN, qn⟩ := x.cN
  obtain ⟨tn, rfl⟩ := qn n rfl
  have S : ∀ i, i < (rs.map (·.1)).length → Small mg (wof rs i) := by
    intro i hi
    rw [List.length_map] at hi
    unfold wof
    rw [List.getElem?_eq_getElem hi]
    have := hle _ (hin _ (List.getElem_mem hi))
    exact small_of hmg.1 hmg.2 (Int.le_trans this (by decide))
  have mono : ∀ i j, i ≤ j → j < (rs.map (·.1)).length → mg + signs (wof rs i) ≤ mg + signs (wof rs j) := by
    intro i j hij hj
    rw [List.length_map] at hj
    exact wof_mono hs i j hij hj
  have hlen' : (rs.map (·.1)).length < 2 ^ 20 := by rw [List.length_map]; exact hlen
  refine wpAny_execs_cons ?_
  refine wpAny_Assign_Name ?_ ?q1
  case q1 => rfl
  refine wpAny_Call_Name_kw ?_
  refine nm_glob x.gd.toG0 (g_bir w) ?_
  obtain ⟨o39, fd39, e39, d39⟩ := kf39 w
  refine callKw1 d39 ?_ ?q1
  case q1 => rfl
  refine spliced_more ?_ ?q3
  case q3 => rfl
  refine wpAny_Name (wpAny_loadName_local rfl rfl x.ns m1 ?_)
  refine spliced_more ?_ ?q3
  case q3 => rfl
  refine wpAny_BinOp ?_
  refine wpAny_BinOp ?_
  refine wpAny_Name (wpAny_loadName_cell rfl rfl rfl hM ?_)
  refine wpAny_Name (wpAny_loadName_cell rfl rfl rfl hR ?_)
  refine PyProof.Rows.add_int ?_
  refine wpAny_Name (wpAny_loadName_cell rfl rfl rfl hN ?_)
  refine PyProof.Rows.sub_int ?_
  refine spliced_nil ?_
  refine nm_glob (s := { s with toks := s.toks + 1 + 1 }) x.gd.toG0 (g_tk w) ?_
  refine ⟨x.gd.kin 39 _ e39, ?_⟩
  refine wpAny_call ?_
  refine any_state' (P := St w s₀ B L aO aR aP e mg rm (some n) m op (rs.map (·.1)) lines pls) (x.kp (Kp.of fun b o e => e)) fun s1 x1 => ?_
  refine bisR_code (f := fun i => mg + signs (wof rs i)) (W := wof rs) (v := mg + rm - n) (tv := s.toks + 1) (t0 := 209) ?_ hh hr x1.gd (x1.hp.rowIs hin) S hlen' (fun _ => rfl) mono fun s2 t2 k k2 hk1 hk2 hk3 => ?_
  · intro o fd e1 e2
    have f1 := x1.gd.kin 39 _ (by rfl)
    cases f1.symm.trans (x1.gd.kin 39 o e1)
    cases e2
    exact kp_binds x1.gd.kin fun S => by kernel_rfl
  rw [List.length_map] at hk1 hk3
  have x2 := x1.kp k2
  refine wpAny_storeName_local rfl x2.ns (fun h₃ hn₃ hs₃ => ?_) ?q1
  case q1 => rfl
  refine any_state (P := St w s₀ B L aO aR aP e mg rm (some n) (fun z => if z = "at" then some (.int (k : Int) t2) else m z) op (rs.map (·.1)) lines pls) (x2.loc hn₃ hs₃) fun s3 x3 => ?_
  clear hs₃ hn₃ h₃ x2 k2 x1 hR hM hN
  obtain ⟨tr, hR⟩ := x3.cR
  obtain ⟨tm, hM⟩ := x3.cM
  obtain ⟨vn, hN, qn⟩ := x3.cN
  obtain ⟨tn, rfl⟩ := qn n rfl
  refine wpAny_execs_cons ?_
  refine wpAny_If ?_
  refine wpAny_isTrue_Compare1 ?_ ?q1
  case q1 => rfl
  refine wpAny_Call_Name_kw ?_
  refine nm_glob x3.gd.toG0 (g_bil w) ?_
  obtain ⟨o48, fd48, e48, d48⟩ := kf48 w
  refine callKw1 d48 ?_ ?q1
  case q1 => rfl
  refine spliced_more ?_ ?q3
  case q3 => rfl
  refine wpAny_Name (wpAny_loadName_local rfl rfl x3.ns ((if_neg (by decide)).trans m1) ?_)
  refine spliced_more ?_ ?q3
  case q3 => rfl
  refine wpAny_BinOp ?_
  refine wpAny_BinOp ?_
  refine wpAny_BinOp ?_
  refine wpAny_Name (wpAny_loadName_cell rfl rfl rfl hM ?_)
  refine wpAny_Name (wpAny_loadName_cell rfl rfl rfl hR ?_)
  refine PyProof.Rows.add_int ?_
  refine wpAny_Name (wpAny_loadName_cell rfl rfl rfl hN ?_)
  refine PyProof.Rows.sub_int ?_
  refine wpAny_Constant_int ?_
  refine PyProof.Rows.add_int ?_
  refine spliced_nil ?_
  refine nm_glob (s := { s3 with toks := s3.toks + 1 + 1 + 1 + 1 }) x3.gd.toG0 (g_tk w) ?_
  refine ⟨x3.gd.kin 48 _ e48, ?_⟩
  refine wpAny_call ?_
  refine any_state' (P := St w s₀ B L aO aR aP e mg rm (some n) (fun z => if z = "at" then some (.int (k : Int) t2) else m z) op (rs.map (·.1)) lines pls) (x3.kp (Kp.of fun b o e => e)) fun s4 x4 => ?_
  refine bisL_code (f := fun i => mg + signs (wof rs i)) (W := wof rs) (v := mg + rm - n + 1) (tv := s3.toks + 1 + 1 + 1) (t0 := 223) ?_ hh hr x4.gd (x4.hp.rowIs hin) S hlen' (fun _ => rfl) mono fun s5 t5 k' k5 hl1 hl2 hl3 => ?_
  · intro o fd e1 e2
    have f1 := x4.gd.kin 48 _ (by rfl)
    cases f1.symm.trans (x4.gd.kin 48 o e1)
    cases e2
    exact kp_binds x4.gd.kin fun S => by kernel_rfl
  rw [List.length_map] at hl1 hl3
  have x5 := x4.kp k5
  have hkk : k' = k := by
    rcases Nat.lt_trichotomy k' k with hlt | rfl | hlt
    · have a1 := hk2 k' hlt
      have a2 := hl3 k' (Nat.le_refl _) (by omega)
      omega
    · rfl
    · have a1 := hl2 k hlt
      have a2 := hk3 k (Nat.le_refl _) (by omega)
      omega
  subst hkk
  refine wpAny_Name (wpAny_loadName_local rfl rfl x5.ns (if_pos rfl) ?_)
  refine PyProof.Rows.ne_int ?_
  refine wpAny_truthy_bool ?_
  rw [bne_self_eq_false, if_neg (by decide)]
  refine wpAny_execs_nil ?_
  refine h k' _ s5 x5 hk1 (fun j hj => ?_) (fun j h1 h2 => ?_) ⟨_, if_pos rfl⟩ fun z hz => if_neg hz
  · have := hk2 j hj
    omega
  · have := hk3 j h1 h2
    omega
end
end Mine
end

section
open PySem PySem.W PyProof.Rows PySem.Calls
set_option maxRecDepth 100000
namespace Mine

section
variable {prog : Program} {w : World} {A : Around} {E : Value → Shared → Prop} {s : Shared}
theorem g_ins (w : World) : globK (KK w) "insort_right" = some (.ref 30) := by kernel_rfl
theorem a_push (w : World) : findIn (KK w) (.ref 128) "push" = some (some (.ref 72)) := by kernel_rfl
theorem a_push_t (w : World) : typeIn (KK w) (.ref 72) = some (.type "function") := by kernel_rfl
theorem keep72 (w : World) : keepIn (KK w) (.ref 72) = true := by kernel_rfl

variable {s₀ : Shared} {B L aO aR aP e : Addr} {mg rm : Int} {nd : Option Int} {m : Str → Option Value} {op : List Addr} {r l1 l2 pls : List (Addr × List Str)} {a : Addr} {ws : List Str}

theorem St.size (x : St w s₀ B L aO aR aP e mg rm nd m op rw lines pls s) (hB : B = e + 1) : @LE.le Nat _ B s.heap.objs.size := by
  obtain ⟨o, h⟩ := x.room
  have := Heap.lt_size h
  subst hB
  exact this

set_option maxHeartbeats 8000000 in
theorem tu_put {y : Str} {ty : Tok} {Q : Flow → Shared → Prop} (hB : B = e + 1) (x : St w s₀ B L aO aR aP e mg rm nd m op (r.map (·.1)) (l1 ++ (a, ws) :: l2) pls s) (hh : A.handled = none) (hr : A.depth + 9 < recursionLimit)
    (hmg : 0 ≤ mg ∧ mg ≤ 2) (hlen : r.length < 2 ^ 20) (hin : ∀ p ∈ r, p ∈ l1 ∨ p ∈ l2) (hle : ∀ p ∈ r, signs p.2 ≤ 100) (hws : signs (ws ++ [y]) ≤ 100) (hs : r.Pairwise (fun x y => signs x.2 ≤ signs y.2))
    (m1 : m "row" = some (.ref aR)) (m2 : m "line" = some (.ref a)) (m3 : m "word" = some (.str y ty))
    (h : ∀ (k : Nat) s', St w s₀ B L aO aR aP e mg rm nd m op ((r.take k ++ (a, ws ++ [y]) :: r.drop k).map (·.1)) (l1 ++ (a, ws ++ [y]) :: l2) pls s' → k ≤ r.length → (∀ j, j < k → signs (wof r j) ≤ signs (ws ++ [y])) → (∀ j, k ≤ j → j < r.length → signs (ws ++ [y]) < signs (wof r j)) →
      wpAny (model prog w) A (execs (turnBody.drop 8) (lenv L)) Q E s') :
    wpAny (model prog w) A (execs (turnBody.drop 6) (lenv L)) Q E s := by
  have hma : (a, ws) ∈ l1 ++ (a, ws) :: l2 := by simp
  have LO := x.hp.lin (a, ws) hma
  obtain ⟨hBa, d, Ts, n, L0, hBd, hBT⟩ := id LO
  obtain ⟨es, q, t, hd, hi, hes⟩ := L0.dict
  have hwl : (ws.length : Int) ≤ 100 := by
    have h1 := len_le (ws ++ [y])
    rw [List.length_append] at h1
    push_cast at h1
    omega
  refine wpAny_execs_cons ?_
  refine wpAny_Expr ?_ ?q1 ?q2
  case q1 => rfl
  case q2 => rfl
  refine MethodCall_ ?_
  refine wpAny_Name (wpAny_loadName_local rfl rfl x.ns m2 ?_)
  refine meth_line x.gd.toG0 L0.at_ hd (f := .ref 72) (tf := .type "function") (a_push w) (a_push_t w) (by decide) (hes _ (by decide)) ?_
  refine callWith_K x.gd.kin (keep72 w) ?_ ?q1 ?q2
  case q1 => rfl
  case q2 => rfl
  refine spliced_more ?_ ?q3
  case q3 => rfl
  refine wpAny_Constant_str ?_
  refine spliced_more ?_ ?q3
  case q3 => rfl
  refine wpAny_Name (wpAny_loadName_local rfl rfl (s := { s with toks := s.toks + 1 }) x.ns m3 ?_)
  refine spliced_nil ?_
  refine ⟨x.gd.kin, ?_⟩
  refine wpAny_call ?_
  refine any_state' (P := St w s₀ B L aO aR aP e mg rm nd m op (r.map (·.1)) (l1 ++ (a, ws) :: l2) pls) (x.kp (Kp.of fun b o e => e)) fun s1 x1 => ?_
  refine push_code (B := B) (mg := mg) (ws := ws) (by omega) x1.gd (x1.hp.lin (a, ws) hma) (x1.size hB) x1.hp.big (by omega) fun s2 k2 L2 => ?_
  have x2 : St w s₀ B L aO aR aP e mg rm nd m op (r.map (·.1)) (l1 ++ (a, ws ++ [y]) :: l2) pls s2 := x1.own k2 (.inr (.inr (.inr hBa))) (x1.hp.wL (fun b o hc hb e => k2.cls x1.gd hb hc e) L2)
  clear k2 x1
  refine wpAny_execs_cons ?_
  refine wpAny_Expr ?_ ?q1 ?q2
  case q1 => rfl
  case q2 => rfl
  refine wpAny_Call_Name_kw ?_
  refine nm_glob x2.gd.toG0 (g_ins w) ?_
  obtain ⟨o30, fd30, e30, d30⟩ := kf30 w
  refine callKw1 d30 ?_ ?q1
  case q1 => rfl
  refine spliced_more ?_ ?q3
  case q3 => rfl
  refine wpAny_Name (wpAny_loadName_local rfl rfl x2.ns m1 ?_)
  refine spliced_more ?_ ?q3
  case q3 => rfl
  refine wpAny_Name (wpAny_loadName_local rfl rfl x2.ns m2 ?_)
  refine spliced_nil ?_
  refine nm_glob x2.gd.toG0 (g_tk w) ?_
  refine ⟨x2.gd.kin 30 _ e30, ?_⟩
  refine wpAny_call ?_
  have hin2 : ∀ p ∈ r, p ∈ l1 ++ (a, ws ++ [y]) :: l2 := fun p hp => by
    rcases hin p hp with h | h
    · exact List.mem_append_left _ h
    · exact List.mem_append_right _ (List.mem_cons_of_mem _ h)
  have S : ∀ i, i < (r.map (·.1)).length → Small mg (wof r i) := by
    intro i hi
    rw [List.length_map] at hi
    unfold wof
    rw [List.getElem?_eq_getElem hi]
    have := hle _ (List.getElem_mem hi)
    exact small_of hmg.1 hmg.2 (Int.le_trans this (by decide))
  have mono : ∀ i j, i ≤ j → j < (r.map (·.1)).length → mg + signs (wof r i) ≤ mg + signs (wof r j) := by
    intro i j hij hj
    rw [List.length_map] at hj
    exact wof_mono hs i j hij hj
  have La : LineAt s2.heap a mg (ws ++ [y]) := (x2.hp.lin (a, ws ++ [y]) (by simp)).at'
  refine insort_code (f := fun i => mg + signs (wof r i)) (W := wof r) hh hr x2.gd (x2.hp.rowIs hin2) La S (small_of hmg.1 hmg.2 (by omega)) (by rw [List.length_map]; exact hlen) x2.hp.iR (fun _ => rfl) mono fun s3 k k3 hk1 hk2 hk3 hrow => ?_
  rw [List.length_map] at hk1 hk3
  refine h k s3 ?_ hk1 (fun j hj => ?_) (fun j h1 h2 => ?_)
  · refine x2.own k3 (.inr (.inl rfl)) (x2.hp.wR (fun b o hc hb e => k3.cls x2.gd hb hc e) ?_)
    rw [List.map_append, List.map_cons, List.map_take, List.map_drop]
    exact hrow
  · have := hk2 j hj
    omega
  · have := hk3 j h1 h2
    omega
end
end Mine
end

section
open PySem PySem.W PyProof.Rows PySem.Calls
set_option maxRecDepth 100000
namespace Mine

theorem ins_perm {α : Type} (r : List α) (p : α) (k : Nat) : (r.take k ++ p :: r.drop k).Perm (p :: r) := by
  have h := List.perm_middle (a := p) (l₁ := r.take k) (l₂ := r.drop k)
  rwa [List.take_append_drop] at h

theorem ins_sorted {r : List (Addr × List Str)} {p : Addr × List Str} {k : Nat} (hs : r.Pairwise (fun x y => signs x.2 ≤ signs y.2)) (h1 : ∀ j, j < k → signs (wof r j) ≤ signs p.2) (h2 : ∀ j, k ≤ j → j < r.length → signs p.2 < signs (wof r j)) :
    (r.take k ++ p :: r.drop k).Pairwise (fun x y => signs x.2 ≤ signs y.2) := by
  have low : ∀ x ∈ r.take k, signs x.2 ≤ signs p.2 := by
    intro x hx
    obtain ⟨j, hj, e⟩ := List.getElem_of_mem hx
    rw [List.length_take] at hj
    have := h1 j (by omega)
    unfold wof at this
    rw [List.getElem?_eq_getElem (by omega)] at this
    rw [List.getElem_take] at e
    rw [e] at this
    exact this
  have high : ∀ x ∈ r.drop k, signs p.2 ≤ signs x.2 := by
    intro x hx
    obtain ⟨j, hj, e⟩ := List.getElem_of_mem hx
    rw [List.length_drop] at hj
    have := h2 (k + j) (by omega) (by omega)
    unfold wof at this
    rw [List.getElem?_eq_getElem (by omega)] at this
    rw [List.getElem_drop] at e
    rw [e] at this
    exact Int.le_of_lt this
  refine List.pairwise_append.mpr ⟨hs.sublist (List.take_sublist _ _), List.pairwise_cons.mpr ⟨high, hs.sublist (List.drop_sublist _ _)⟩, fun x hx y hy => ?_⟩
  rcases List.mem_cons.mp hy with rfl | hy
  · exact low x hx
  · exact Int.le_trans (low x hx) (high y hy)

theorem LineOver.lower {B B' : Addr} {h : Heap} {a : Addr} {mg : Int} {ws : List Str} (x : LineOver B' h a mg ws) (hB : @LE.le Nat _ B B') : LineOver B h a mg ws :=
  let ⟨h1, d, Ts, n, y, h2, h3⟩ := x; ⟨Nat.le_trans hB h1, d, Ts, n, y, Nat.le_trans hB h2, fun T hT => Nat.le_trans hB (h3 T hT)⟩

section
variable {prog : Program} {w : World} {A : Around} {E : Value → Shared → Prop} {s : Shared}
theorem g_acc (w : World) : globK (KK w) "_Accumulator" = some (.ref 128) := by kernel_rfl
theorem keep128 (w : World) : keepIn (KK w) (.ref 128) = true := by kernel_rfl

variable {s₀ : Shared} {B L aO aR aP e : Addr} {mg rm : Int} {nd : Option Int} {m : Str → Option Value} {rs lines pls : List (Addr × List Str)}

/-- what a word does to the lines -/
def Put (rs lines lines' : List (Addr × List Str)) (k : Nat) (y : Str) : Prop :=
  (k = 0 ∧ ∃ a, lines' = lines ++ [(a, [y])]) ∨ (∃ l1 a ws l2, 0 < k ∧ rs[k - 1]? = some (a, ws) ∧ lines = l1 ++ (a, ws) :: l2 ∧ lines' = l1 ++ (a, ws ++ [y]) :: l2)

set_option maxHeartbeats 8000000 in
theorem tu_lines {n : Int} {k : Nat} {y : Str} {ty : Tok} {Q : Flow → Shared → Prop} (P : Pg prog) (hB : B = e + 1) (x : St w s₀ B L aO aR aP e mg rm nd m (lines.map (·.1)) (rs.map (·.1)) lines pls s) (hh : A.handled = none) (hr : A.depth + 9 < recursionLimit)
    (hmg : 0 ≤ mg ∧ mg ≤ 2) (hlen : rs.length < 1000) (hp : rs.Perm lines) (hle : ∀ p ∈ lines, signs p.2 ≤ 60) (hy : sz y ≤ 40) (hs : rs.Pairwise (fun x y => signs x.2 ≤ signs y.2)) (hk : k ≤ rs.length)
    (m1 : m "row" = some (.ref aR)) (m2 : ∃ t, m "at" = some (.int (k : Int) t)) (m3 : m "word" = some (.str y ty)) (m4 : m "opened" = some (.ref aO))
    (h : ∀ (rs' lines' : List (Addr × List Str)) m' s', St w s₀ B L aO aR aP e mg rm nd m' (lines'.map (·.1)) (rs'.map (·.1)) lines' pls s' → rs'.Perm lines' → rs'.Pairwise (fun x y => signs x.2 ≤ signs y.2) → Put rs lines lines' k y →
      (∀ z : Str, z ≠ "line" → m' z = m z) → wpAny (model prog w) A (execs (turnBody.drop 8) (lenv L)) Q E s') :
    wpAny (model prog w) A (execs (turnBody.drop 5) (lenv L)) Q E s := by
  obtain ⟨ta, m2⟩ := m2
  refine wpAny_execs_cons ?_
  refine wpAny_If ?_
  refine wpAny_isTrue_Compare1 ?_ ?q1
  case q1 => rfl
  refine wpAny_Name (wpAny_loadName_local rfl rfl x.ns m2 ?_)
  refine wpAny_Constant_int ?_
  refine PyProof.Rows.eq_int ?_
  refine wpAny_truthy_bool ?_
  by_cases hk0 : k = 0
  · subst hk0
    rw [if_pos (by rfl)]
    refine any_state (P := St w s₀ B L aO aR aP e mg rm nd m (lines.map (·.1)) (rs.map (·.1)) lines pls) (x.kp (Kp.of fun b o e => e)) fun s1 x1 => ?_
    clear x
    obtain ⟨tm, hM⟩ := x1.cM
    refine wpAny_execs_cons ?_
    refine wpAny_Assign_Name ?_ ?q1
    case q1 => rfl
    refine Call_ ?_ ?q1
    case q1 => rfl
    refine nm_glob x1.gd.toG0 (g_acc w) ?_
    refine callWith_K x1.gd.kin (keep128 w) ?_ ?q1 ?q2
    case q1 => rfl
    case q2 => rfl
    refine spliced_more ?_ ?q3
    case q3 => rfl
    refine wpAny_Name (wpAny_loadName_cell rfl rfl rfl hM ?_)
    refine spliced_nil ?_
    refine ⟨x1.gd.kin, ?_⟩
    refine wpAny_call ?_
    have hsz := x1.size hB
    refine new_line P (by omega) x1.gd (Nat.le_trans x1.hp.big hsz) fun s2 a k2 L2 => ?_
    have x2 := x1.kp k2
    have L2' := L2.lower hsz
    have hfresh : ∀ p ∈ lines, p.1 ≠ a := by
      intro p hp'
      obtain ⟨_, d, Ts, n, L0, _⟩ := x1.hp.lin p hp'
      exact Nat.ne_of_lt (Nat.lt_of_lt_of_le (Heap.lt_size L0.at_) L2.1)
    have x3 : St w s₀ B L aO aR aP e mg rm nd m (lines.map (·.1)) (rs.map (·.1)) (lines ++ [(a, [])]) pls s2 := ⟨x2.ap, x2.gd, x2.ns, x2.cR, x2.cM, x2.cN, x2.hp.line L2' hfresh, x2.kt, x2.he, x2.gens, x2.os⟩
    refine wpAny_storeName_local rfl x3.ns (fun h₄ hn₄ hs₄ => ?_) ?q1
    case q1 => rfl
    refine any_state (P := St w s₀ B L aO aR aP e mg rm nd (fun z => if z = "line" then some (.ref a) else m z) (lines.map (·.1)) (rs.map (·.1)) (lines ++ [(a, [])]) pls) (x3.loc hn₄ hs₄) fun s4 x4 => ?_
    clear hs₄ hn₄ h₄ x3 x2 k2 L2 L2'
    refine wpAny_execs_cons ?_
    refine wpAny_Expr ?_ ?q1 ?q2
    case q1 => rfl
    case q2 => rfl
    refine MethodCall_ ?_
    refine wpAny_Name (wpAny_loadName_local rfl rfl x4.ns ((if_neg (by decide)).trans m4) ?_)
    obtain ⟨nO, eO⟩ := x4.hp.oO
    refine meth_list eO PySem.F.slot_list_append PySem.F.type_list_append ?_
    refine callWith_method1 ?_ ?q1 ?q2
    case q1 => rfl
    case q2 => rfl
    refine spliced_more ?_ ?q3
    case q3 => rfl
    refine wpAny_Name (wpAny_loadName_local rfl rfl x4.ns (if_pos rfl) ?_)
    refine spliced_nil ?_
    have hll : lines.length < 1000 := by rw [← hp.length_eq]; exact hlen
    refine append_at eO (fun h₅ hs₅ e₅ => ?_) (by rw [List.size_toArray, List.length_map, List.length_map]; exact Nat.le_trans (by omega) sz20)
    refine wpAny_execs_nil ?_
    have k5 : Kx w aO s4 { s4 with heap := h₅, toks := s4.toks } := Kx.of x4.hp.iO hs₅
    have x5 : St w s₀ B L aO aR aP e mg rm nd (fun z => if z = "line" then some (.ref a) else m z) ((lines ++ [(a, ([] : List Str))] : List (Addr × List Str)).map (·.1)) (rs.map (·.1)) (lines ++ [(a, [])]) pls { s4 with heap := h₅, toks := s4.toks } := by
      refine x4.own k5 (.inl rfl) (x4.hp.wO (fun b o hc hb e => k5.cls x4.gd hb hc e) ⟨nO + 1, ?_⟩)
      rw [e₅]
      simp
    refine tu_put (y := y) (ty := ty) hB (x5 : St w s₀ B L aO aR aP e mg rm nd _ _ _ (lines ++ (a, []) :: []) pls _) hh hr hmg (by omega) (fun p hp' => .inl (hp.mem_iff.mp hp')) (fun p hp' => Int.le_trans (hle p (hp.mem_iff.mp hp')) (by decide)) (by rw [List.nil_append, signs_one]; omega) hs
      ((if_neg (by decide)).trans m1) (if_pos rfl) ((if_neg (by decide)).trans m3) fun k2 s6 x6 q1 q2 q3 => ?_
    refine h _ _ (fun z => if z = "line" then some (.ref a) else m z) s6 ?_ ?_ (ins_sorted (p := (a, [] ++ [y])) hs q2 q3) (.inl ⟨rfl, a, rfl⟩) fun z hz => if_neg hz
    · have e : (lines ++ [(a, ([] : List Str) ++ [y])] : List (Addr × List Str)).map (·.1) = (lines ++ [(a, ([] : List Str))] : List (Addr × List Str)).map (·.1) := by simp
      rw [List.nil_append] at e
      rw [e]
      exact x6
    · exact (ins_perm rs _ k2).trans ((hp.cons _).trans (List.perm_append_singleton _ _).symm)
  · have hneg : ((k : Int) == 0) = false := by rw [beq_eq_false_iff_ne]; omega
    rw [hneg, if_neg (by decide)]
    refine any_state (P := St w s₀ B L aO aR aP e mg rm nd m (lines.map (·.1)) (rs.map (·.1)) lines pls) (x.kp (Kp.of fun b o e => e)) fun s1 x1 => ?_
    clear x
    have hk1 : k - 1 < rs.length := by omega
    have hget : rs[k - 1]? = some rs[k - 1] := List.getElem?_eq_getElem hk1
    generalize hpq : rs[k - 1] = p at hget
    obtain ⟨a, ws⟩ := p
    have hpl : (a, ws) ∈ lines := hp.mem_iff.mp (List.mem_of_getElem? hget)
    obtain ⟨l1, l2, rfl⟩ := List.append_of_mem hpl
    have hsplit : rs = rs.take (k - 1) ++ (a, ws) :: rs.drop k := by
      have h1 := (List.take_append_drop (k - 1) rs).symm
      rw [List.drop_eq_getElem_cons hk1, hpq] at h1
      have : k - 1 + 1 = k := by omega
      rw [this] at h1
      exact h1
    generalize hr1 : rs.take (k - 1) = r1 at hsplit
    generalize hr2 : rs.drop k = r2 at hsplit
    have hlen1 : r1.length = k - 1 := by rw [← hr1, List.length_take]; omega
    clear hr1 hr2 hpq
    subst hsplit
    have hrl : (r1 ++ r2).length < 1000 := by
      rw [List.length_append, List.length_cons] at hlen
      rw [List.length_append]
      omega
    have hperm : (r1 ++ r2).Perm (l1 ++ l2) := by
      have := (List.perm_middle (a := (a, ws)) (l₁ := r1) (l₂ := r2)).symm.trans (hp.trans List.perm_middle)
      exact List.Perm.cons_inv this
    have hs' : (r1 ++ r2).Pairwise (fun x y => signs x.2 ≤ signs y.2) := hs.sublist (List.Sublist.append_left (List.sublist_cons_self _ _) _)
    refine wpAny_execs_cons ?_
    refine wpAny_Assign_Name ?_ ?q1
    case q1 => rfl
    refine MethodCall_ ?_
    refine wpAny_Name (wpAny_loadName_local rfl rfl x1.ns m1 ?_)
    obtain ⟨nR, eR⟩ := x1.hp.oR
    refine meth_list eR PySem.F.slot_list_pop PySem.F.type_list_pop ?_
    refine callWith_method1 ?_ ?q1 ?q2
    case q1 => rfl
    case q2 => rfl
    refine spliced_more ?_ ?q3
    case q3 => rfl
    refine wpAny_BinOp ?_
    refine wpAny_Name (wpAny_loadName_local rfl rfl x1.ns m2 ?_)
    refine wpAny_Constant_int ?_
    refine PyProof.Rows.sub_int ?_
    refine spliced_nil ?_
    refine any_state (P := fun s => St w s₀ B L aO aR aP e mg rm nd m ((l1 ++ (a, ws) :: l2).map (·.1)) ((r1 ++ (a, ws) :: r2).map (·.1)) (l1 ++ (a, ws) :: l2) pls s) (x1.kp (Kp.of fun b o e => e)) fun s2 x2 => ?_
    clear x1 eR
    obtain ⟨nR, eR⟩ := x2.hp.oR
    rw [List.map_append, List.map_cons, List.map_append, List.map_cons] at eR
    refine pop_at (x := (k : Int) - 1) (by rw [List.length_map, List.length_map, hlen1]; omega) eR (by
      rw [List.length_append, List.length_cons] at hlen
      simp only [List.length_append, List.length_cons, List.length_map]
      omega) fun h₃ hs₃ e₃ => ?_
    have k3 : Kx w aR s2 { s2 with heap := h₃, toks := s2.toks } := Kx.of x2.hp.iR hs₃
    have x3 : St w s₀ B L aO aR aP e mg rm nd m ((l1 ++ (a, ws) :: l2).map (·.1)) ((r1 ++ r2).map (·.1)) (l1 ++ (a, ws) :: l2) pls { s2 with heap := h₃, toks := s2.toks } := by
      refine x2.own k3 (.inr (.inl rfl)) (x2.hp.wR (fun b o hc hb e => k3.cls x2.gd hb hc e) ⟨nR + 1, ?_⟩)
      rw [List.map_append, List.map_append]
      exact e₃
    refine wpAny_storeName_local rfl x3.ns (fun h₄ hn₄ hs₄ => ?_) ?q1
    case q1 => rfl
    refine any_state (P := St w s₀ B L aO aR aP e mg rm nd (fun z => if z = "line" then some (.ref a) else m z) ((l1 ++ (a, ws) :: l2).map (·.1)) ((r1 ++ r2).map (·.1)) (l1 ++ (a, ws) :: l2) pls) (x3.loc hn₄ hs₄) fun s4 x4 => ?_
    clear hs₄ hn₄ h₄ x3 k3 x2 hs₃ e₃ h₃ eR
    refine wpAny_execs_nil ?_
    have hws : signs (ws ++ [y]) ≤ 100 := by
      have := hle (a, ws) hpl
      rw [signs_append, signs_one]
      dsimp only at this
      omega
    have hin : ∀ p ∈ r1 ++ r2, p ∈ l1 ∨ p ∈ l2 := fun p hp' => List.mem_append.mp (hperm.mem_iff.mp hp')
    refine tu_put (y := y) (ty := ty) hB x4 hh hr hmg (by omega) hin (fun p hp' => Int.le_trans (hle p ?_) (by decide)) hws hs'
      ((if_neg (by decide)).trans m1) (if_pos rfl) ((if_neg (by decide)).trans m3) fun k2 s6 x6 q1 q2 q3 => ?_
    · rcases hin p hp' with h | h
      · exact List.mem_append_left _ h
      · exact List.mem_append_right _ (List.mem_cons_of_mem _ h)
    refine h _ _ (fun z => if z = "line" then some (.ref a) else m z) s6 ?_ ?_ (ins_sorted (p := (a, ws ++ [y])) hs' q2 q3) (.inr ⟨l1, a, ws, l2, by omega, hget, rfl, rfl⟩) fun z hz => if_neg hz
    · have e : (l1 ++ (a, ws ++ [y]) :: l2).map (·.1) = (l1 ++ (a, ws) :: l2).map (·.1) := by simp
      rw [e]
      exact x6
    · exact (ins_perm (r1 ++ r2) _ k2).trans ((hperm.cons _).trans List.perm_middle.symm)
end
end Mine
end

section
open PySem PySem.W PyProof.Rows PySem.Calls
set_option maxRecDepth 100000
namespace Mine
section
variable {prog : Program} {w : World} {A : Around} {E : Value → Shared → Prop} {s : Shared}
theorem g_sg (w : World) : globK (KK w) "_law_signs" = some (.ref 144) := by kernel_rfl
theorem keep144 (w : World) : keepIn (KK w) (.ref 144) = true := by kernel_rfl

variable {s₀ : Shared} {B L aO aR aP e : Addr} {mg rm : Int} {nd : Option Int} {m : Str → Option Value} {op rw : List Addr} {lines pls : List (Addr × List Str)}

theorem St.locx {s' : Shared} {m' : Str → Option Value} (x : St w s₀ B L aO aR aP e mg rm nd m op rw lines pls s) (k : Kx w L s s') (hn : s'.heap.Ns L m') : St w s₀ B L aO aR aP e mg rm nd m' op rw lines pls s' := by
  obtain ⟨a1, a2, a3, a4, a5, a6⟩ := x.ap
  exact x.kx k (.inl rfl) hn (x.cN' k (Nat.ne_of_gt (by omega))) (x.hp.low (r := L) (by show @LT.lt Nat _ L B; omega) (Nat.ne_of_lt (by omega)) (Nat.ne_of_lt (by omega)) (Nat.ne_of_lt (by omega)) fun b o hc hb e => k.cls x.gd hb hc e)

/-- what a word does to the plain lists -/
def PutP (rm n : Int) (pls pls' : List (Addr × List Str)) (y : Str) : Prop :=
  ((∀ q ∈ pls, rm < signs q.2 + n) ∧ ∃ b, pls' = pls ++ [(b, [y])]) ∨ (∃ q1 b ws q2, pls = q1 ++ (b, ws) :: q2 ∧ (∀ q ∈ q1, rm < signs q.2 + n) ∧ signs ws + n ≤ rm ∧ pls' = q1 ++ (b, ws ++ [y]) :: q2)

set_option maxHeartbeats 8000000 in
theorem tu_plain {n : Int} {y : Str} {ty : Tok} {Q : Flow → Shared → Prop} (hB : B = e + 1) (x : St w s₀ B L aO aR aP e mg rm (some n) m op rw lines pls s) (hh : A.handled = none) (hr : A.depth + 9 < recursionLimit) (hu : A.units < cLine)
    (hlen : pls.length < 1000) (hle : ∀ p ∈ pls, signs p.2 ≤ 100)
    (m1 : m "plain" = some (.ref aP)) (m2 : m "word" = some (.str y ty))
    (H : (∀ q ∈ pls, rm < signs q.2 + n) ∨ (∃ q1 b ws q2, pls = q1 ++ (b, ws) :: q2 ∧ (∀ q ∈ q1, rm < signs q.2 + n) ∧ signs ws + n ≤ rm))
    (h : ∀ (pls' : List (Addr × List Str)) m' s', St w s₀ B L aO aR aP e mg rm (some n) m' op rw lines pls' s' → PutP rm n pls pls' y → (∀ z : Str, z ≠ "fits" → m' z = m z) → wpAny (model prog w) A (execs (turnBody.drop 10) (lenv L)) Q E s') :
    wpAny (model prog w) A (execs (turnBody.drop 8) (lenv L)) Q E s := by
  obtain ⟨nP, eP⟩ := x.hp.oP
  refine wpAny_execs_cons ?_
  refine comp_assign (cl := [(Str.ofString "room", L + 1), (Str.ofString "need", L + 3)]) (by rfl) (by rfl) (by rfl) x.ap.l150 hh (by rfl) (by decide) rfl (by decide) rfl (fun _ => rfl) ?_
  refine wpAny_Name (wpAny_loadName_local rfl rfl x.ns m1 ?_)
  refine ⟨aP, (pls.map (·.1)).map Value.ref, nP, fun i => decide (signs (wof pls i) + n ≤ rm), fun i v => ∃ q, pls[i]? = some q ∧ v = .ref q.1, m, rfl, x.gd, x.ns, eP, by simp only [List.length_map]; omega, ⟨?_, ?_⟩, ?_⟩
  · intro C i v s₂ m₂ E' hv k₂ G₂ hC hns hm
    obtain ⟨q, hq, rfl⟩ : ∃ q, pls[i]? = some q ∧ v = .ref q.1 := by
      rw [List.getElem?_map, List.getElem?_map] at hv
      cases hq : pls[i]? with
      | none => rw [hq] at hv; cases hv
      | some q => rw [hq] at hv; cases hv; exact ⟨q, rfl, rfl⟩
    have hqm := List.mem_of_getElem? hq
    have x2 := x.kp k₂
    rw [List.forIn_cons]
    refine wpAny_bind ?_
    rw [if_pos rfl]
    refine wpAny_bind ?_
    refine wpAny_isTrue_Compare1 ?_ ?q1
    case q1 => rfl
    refine wpAny_BinOp ?_
    refine Call_ ?_ ?q1
    case q1 => rfl
    refine nm_glob G₂.toG0 (g_sg w) ?_
    refine callWith_K G₂.kin (keep144 w) ?_ ?q1 ?q2
    case q1 => rfl
    case q2 => rfl
    refine spliced_more ?_ ?q3
    case q3 => rfl
    refine wpAny_Name (wpAny_loadName_local rfl rfl hns hm ?_)
    refine spliced_nil ?_
    refine ⟨G₂.kin, ?_⟩
    refine wpAny_call ?_
    have hl2 := hle q hqm
    refine signs_code (ws := q.2) hh (by omega) G₂ (x2.hp.pla q hqm) (by have := len_le q.2; omega) (fun z hz => by have := sz_le hz; unfold sz at this; omega) fun s₃ t₃ k₃ => ?_
    have x3 := x2.kp k₃
    obtain ⟨vn, hN, qn⟩ := x3.cN
    obtain ⟨tn, rfl⟩ := qn n rfl
    obtain ⟨tr, hR⟩ := x3.cR
    refine wpAny_Name (wpAny_loadName_cell rfl rfl rfl hN ?_)
    refine PyProof.Rows.add_int ?_
    refine wpAny_Name (wpAny_loadName_cell rfl rfl rfl (s := { s₃ with toks := s₃.toks + 1 }) hR ?_)
    refine P.le_int ?_
    refine wpAny_truthy_bool ?_
    refine wpAny_pure ?_
    dsimp only
    rw [List.forIn_nil]
    refine wpAny_pure ?_
    have hw : wof pls i = q.2 := by unfold wof; rw [hq]
    rw [hw]
    exact ⟨rfl, k₃.trans (Kp.of fun b o e => e)⟩
  · intro C i v s₂ m₂ E' hv _ k₂ G₂ hC hns hm
    obtain ⟨q, hq, rfl⟩ : ∃ q, pls[i]? = some q ∧ v = .ref q.1 := by
      rw [List.getElem?_map, List.getElem?_map] at hv
      cases hq : pls[i]? with
      | none => rw [hq] at hv; cases hv
      | some q => rw [hq] at hv; cases hv; exact ⟨q, rfl, rfl⟩
    refine wpAny_Name (wpAny_loadName_local rfl rfl hns hm ?_)
    exact ⟨⟨q, hq, rfl⟩, Kp.refl w _⟩
  · intro D s₂ ys kD K hn₂ hD hys hP
    have x2 := x.locx K hn₂
    rw [List.length_map, List.length_map] at hP
    have hm : ∀ z : Str, z ≠ "fits" → (fun z : Str => if z = Str.ofString "fits" then some (Value.ref D) else m z) z = m z := fun z hz => if_neg hz
    have m1' : (fun z : Str => if z = Str.ofString "fits" then some (Value.ref D) else m z) (Str.ofString "plain") = some (.ref aP) := (if_neg (by decide)).trans m1
    have m2' : (fun z : Str => if z = Str.ofString "fits" then some (Value.ref D) else m z) (Str.ofString "word") = some (.str y ty) := (if_neg (by decide)).trans m2
    have m3' : (fun z : Str => if z = Str.ofString "fits" then some (Value.ref D) else m z) (Str.ofString "fits") = some (.ref D) := if_pos rfl
    generalize (fun z : Str => if z = Str.ofString "fits" then some (Value.ref D) else m z) = mm at x2 hm m1' m2' m3'
    refine wpAny_execs_cons ?_
    refine wpAny_If ?_
    refine wpAny_isTrue_Compare1 ?_ ?q1
    case q1 => rfl
    refine wpAny_Name (wpAny_loadName_local rfl rfl x2.ns m3' ?_)
    refine wpAny_List_spliced ?_
    refine spliced_nil ?_
    refine ⟨Nat.zero_le _, ?_⟩
    have hys3 : (s₂.heap.push { cls := .type "list", data := .seq ([] : List Value).toArray }).get? D = some (listOf (List.toArray ys) kD) := Heap.get?_push_of_some _ hys
    have hE3 : (s₂.heap.push { cls := .type "list", data := .seq ([] : List Value).toArray }).get? s₂.heap.objs.size = some (listOf ([] : List Value).toArray 0) := Heap.get?_push_size _ rfl
    have hsz := x2.size hB
    rcases H with Hn | ⟨q1, b, ws, q2, rfl, hq1, hfit⟩
    · have hf : (List.range pls.length).filter (fun i => decide (signs (wof pls i) + n ≤ rm)) = [] := range_none fun j hj => by
        have := Hn _ (List.getElem_mem hj)
        unfold wof
        rw [List.getElem?_eq_getElem hj]
        rw [decide_eq_false_iff_not]
        dsimp only
        omega
      rw [hf] at hP
      cases hP
      refine P.eq_list (e := fun _ => true) hys3 hE3 rfl (fun j h1 => absurd h1 (Nat.not_lt_zero j)) hu ?_
      refine wpAny_truthy_bool ?_
      rw [if_pos (by rfl)]
      refine any_state (P := St w s₀ B L aO aR aP e mg rm (some n) mm op rw lines pls) (x2.kp (Kp.of fun b o e => Heap.get?_push_of_some _ e)) fun s3 x3 => ?_
      clear hys3 hE3 x2 hys
      refine wpAny_execs_cons ?_
      refine wpAny_Expr ?_ ?q1 ?q2
      case q1 => rfl
      case q2 => rfl
      refine MethodCall_ ?_
      refine wpAny_Name (wpAny_loadName_local rfl rfl x3.ns m1' ?_)
      obtain ⟨nP, eP⟩ := x3.hp.oP
      refine meth_list eP PySem.F.slot_list_append PySem.F.type_list_append ?_
      refine callWith_method1 ?_ ?q1 ?q2
      case q1 => rfl
      case q2 => rfl
      refine spliced_more ?_ ?q3
      case q3 => rfl
      refine wpAny_List_spliced ?_
      refine spliced_more ?_ ?q3
      case q3 => rfl
      refine wpAny_Name (wpAny_loadName_local rfl rfl x3.ns m2' ?_)
      refine spliced_nil ?_
      refine ⟨Nat.le_trans (by show 1 ≤ 2 ^ 20; decide) sz20, ?_⟩
      refine spliced_nil ?_
      dsimp only
      have hs3 := x3.size hB
      generalize hb : s3.heap.objs.size = b
      have k4 : Kp w s3 { s3 with heap := s3.heap.push { cls := .type "list", data := .seq [Value.str y ty].toArray } } := Kp.of (tk := s3.toks) fun b o e => Heap.get?_push_of_some _ e
      have x4 := x3.kp k4
      have hb4 : (s3.heap.push { cls := .type "list", data := .seq [Value.str y ty].toArray }).get? b = some (listOf [Value.str y ty].toArray 0) := by rw [← hb]; exact Heap.get?_push_size _ rfl
      have eP4 : (s3.heap.push { cls := .type "list", data := .seq [Value.str y ty].toArray }).get? aP = some (listOf ((pls.map (·.1)).map Value.ref).toArray nP) := Heap.get?_push_of_some _ eP
      have hbB : @LE.le Nat _ B b := hb ▸ hs3
      have hpn : ∀ q ∈ pls, q.1 ≠ b := fun q hq => by
        obtain ⟨vs, nq, eq, _⟩ := x3.hp.pla q hq
        exact Nat.ne_of_lt (hb ▸ Heap.lt_size eq)
      refine append_at eP4 (fun h₅ hs₅ e₅ => ?_) (by rw [List.size_toArray, List.length_map, List.length_map]; exact Nat.le_trans (by omega) sz20)
      refine wpAny_execs_nil ?_
      have k5 : Kx w aP { s3 with heap := s3.heap.push { cls := .type "list", data := .seq [Value.str y ty].toArray } } { s3 with heap := h₅, toks := s3.toks } := Kx.of x3.hp.iP hs₅
      have nb : ∀ {z : Addr}, @LT.lt Nat _ z B → b ≠ z := fun h => Nat.ne_of_gt (Nat.lt_of_lt_of_le h hbB)
      refine h (pls ++ [(b, [y])]) mm _ (x4.own k5 (.inr (.inr (.inl rfl))) (x4.hp.wP (fun c o hc hb e => k5.cls x4.gd hb hc e) (a := b) (ws := [y]) ?_ hbB (nb x3.hp.bO) (nb x3.hp.bR) (nb x3.hp.bP) hpn ⟨nP + 1, ?_⟩)) (.inl ⟨Hn, b, rfl⟩) hm
      · exact ⟨[.str y ty], 0, hs₅.extBut _ _ (nb x3.hp.bP) hb4, .cons ⟨ty, rfl⟩ .nil⟩
      · rw [e₅]
        simp
    · obtain ⟨rest, hf⟩ := range_first (p := fun i => decide (signs (wof (q1 ++ (b, ws) :: q2) i) + n ≤ rm)) (m := q1.length) (by
          unfold wof
          rw [List.getElem?_append_right (Nat.le_refl _), Nat.sub_self]
          rw [decide_eq_true_iff]
          exact hfit) (fun j hj => by
          have := hq1 _ (List.getElem_mem hj)
          unfold wof
          rw [List.getElem?_append_left hj, List.getElem?_eq_getElem hj]
          rw [decide_eq_false_iff_not]
          dsimp only
          omega) (q1 ++ (b, ws) :: q2).length (by simp)
      rw [hf] at hP
      cases hP with
      | cons hv hP =>
      rename_i v ys'
      obtain ⟨q, hq, rfl⟩ := hv
      rw [List.getElem?_append_right (Nat.le_refl _), Nat.sub_self] at hq
      cases hq
      refine P.eq_list_lengths hys3 hE3 (by simp) hu ?_
      refine wpAny_truthy_bool ?_
      rw [if_neg (by decide)]
      have hmb : (b, ws) ∈ q1 ++ (b, ws) :: q2 := by simp
      refine any_state (P := fun s => St w s₀ B L aO aR aP e mg rm (some n) mm op rw lines (q1 ++ (b, ws) :: q2) s ∧ s.heap.get? D = some (listOf (List.toArray (Value.ref b :: ys')) kD)) ⟨x2.kp (Kp.of fun b o e => Heap.get?_push_of_some _ e), hys3⟩ fun s3 x3 => ?_
      obtain ⟨x3, hys⟩ := x3
      clear hys3 hE3 x2
      refine wpAny_execs_cons ?_
      refine wpAny_Expr ?_ ?q1 ?q2
      case q1 => rfl
      case q2 => rfl
      refine MethodCall_ ?_
      refine wpAny_Subscript_Constant_late ?_ ?q1
      case q1 => exact fun _ _ => rfl
      refine wpAny_Name (wpAny_loadName_local rfl rfl x3.ns m3' ?_)
      refine wpAny_Constant_int ?_
      have hlD : s3.heap.IsList D (List.toArray (Value.ref b :: ys')) := ⟨_, hys, rfl, _, rfl⟩
      refine ⟨"list", _, slot_list_getitem.lookup, hlD.typeIs, ?_⟩
      refine wpAny_getItem_list hlD (by decide) (by decide) (by rfl) ?_
      obtain ⟨vs, nb, eb, hvs⟩ := x3.hp.pla (b, ws) hmb
      refine meth_list eb PySem.F.slot_list_append PySem.F.type_list_append ?_
      refine callWith_method1 ?_ ?q1 ?q2
      case q1 => rfl
      case q2 => rfl
      refine spliced_more ?_ ?q3
      case q3 => rfl
      refine wpAny_Name (wpAny_loadName_local rfl rfl x3.ns m2' ?_)
      refine spliced_nil ?_
      have hvl : vs.length ≤ 2 ^ 20 := by
        have h1 : ws.length = vs.length := hvs.length
        have h2 := len_le ws
        have h3 := hle (b, ws) hmb
        dsimp only at h3
        omega
      refine append_at eb (fun h₅ hs₅ e₅ => ?_) (by rw [List.size_toArray]; exact Nat.le_trans hvl sz20)
      refine wpAny_execs_nil ?_
      have hbB := x3.hp.bp (b, ws) hmb
      refine any_state (P := St w s₀ B L aO aR aP e mg rm (some n) mm op rw lines (q1 ++ (b, ws ++ [y]) :: q2)) ?_ fun s6 x6 => h (q1 ++ (b, ws ++ [y]) :: q2) mm s6 x6 (.inr ⟨q1, b, ws, q2, rfl, hq1, hfit, rfl⟩) hm
      have k5 : Kx w b s3 { s3 with heap := h₅, toks := s3.toks + 1 } := Kx.of (Nat.le_trans x3.hp.big hbB) hs₅
      refine x3.own k5 (.inr (.inr (.inr hbB))) (x3.hp.wp (fun c o hc hb e => k5.cls x3.gd hb hc e) ⟨vs ++ [.str y ty], nb + 1, ?_, Paired.snoc hvs ⟨ty, rfl⟩⟩)
      rw [e₅]
      simp
end
end Mine
end

section
open PySem PySem.W PyProof.Rows PySem.Calls
set_option maxRecDepth 100000
namespace Mine

theorem ints_are {idx : List Nat} {val : Nat → Int} {ys : List Value} (h : Paired (fun i v => ∃ t, v = .int (val i) t) idx ys) : IntsAre ys (idx.map val) := by
  induction h with
  | nil => exact .nil
  | cons h _ ih =>
    obtain ⟨t, rfl⟩ := h
    exact .cons _ _ ih

theorem range_wof (rs : List (Addr × List Str)) (mg : Int) : ((List.range rs.length).map fun i => mg + signs (wof rs i)) = rs.map fun p => mg + signs p.2 := by
  refine List.ext_getElem (by simp) fun i h1 h2 => ?_
  simp only [List.length_map, List.length_range] at h1
  simp [h1, wof]

section
variable {prog : Program} {w : World} {A : Around} {E : Value → Shared → Prop} {s : Shared}
theorem g_sorted (w : World) : globK (KK w) "sorted" = none := by kernel_rfl
theorem b_sorted : bootBuiltins "sorted" = some (.builtin "sorted") := boot_sorted

variable {s₀ : Shared} {B L aO aR aP e : Addr} {mg rm : Int} {nd : Option Int} {m : Str → Option Value} {op rw : List Addr} {lines pls rs : List (Addr × List Str)}

set_option maxHeartbeats 8000000 in
theorem tu_check {T : Int} {Q : Flow → Shared → Prop} (x : St w s₀ B L aO aR aP e mg rm nd m (lines.map (·.1)) (rs.map (·.1)) lines pls s) (hh : A.handled = none) (hr : A.depth + 9 < recursionLimit) (hu : A.units + 64 < cLine)
    (hmg : 0 ≤ mg ∧ mg ≤ 2) (hrm : 1 ≤ rm ∧ rm ≤ 100) (hlen : lines.length < 60) (hle : ∀ p ∈ lines, signs p.2 ≤ 100)
    (hp : rs.Perm lines) (hs : rs.Pairwise (fun x y => signs x.2 ≤ signs y.2)) (hsame : pls.map (·.2) = lines.map (·.2)) (hcount : Int.fdiv (T + rm - 1) rm = lines.length)
    (m1 : m "plain" = some (.ref aP)) (m2 : m "row" = some (.ref aR)) (m3 : m "opened" = some (.ref aO)) (m4 : ∃ t, m "total" = some (.int T t))
    (h : ∀ s', St w s₀ B L aO aR aP e mg rm nd m (lines.map (·.1)) (rs.map (·.1)) lines pls s' → Q .next s') :
    wpAny (model prog w) A (execs (turnBody.drop 10) (lenv L)) Q E s := by
  obtain ⟨t4, m4⟩ := m4
  obtain ⟨nO, eO⟩ := x.hp.oO
  refine wpAny_execs_cons ?_
  refine wpAny_If ?_
  refine wpAny_isTrue_Compare1 ?_ ?q1
  case q1 => rfl
  refine Call_ ?_ ?q1
  case q1 => rfl
  refine nm_builtin x.gd.toG0 (g_len w) b_len ?_
  refine callWith_builtin1 ?_ ?q1 ?q2
  case q1 => rfl
  case q2 => rfl
  refine spliced_more ?_ ?q3
  case q3 => rfl
  refine wpAny_Name (wpAny_loadName_local rfl rfl x.ns m3 ?_)
  refine spliced_nil ?_
  refine PySem.Calls.call_len_list ⟨_, eO, rfl, _, rfl⟩ (by simp only [List.size_toArray, List.length_map]; omega) ?_
  refine any_state (P := St w s₀ B L aO aR aP e mg rm nd m (lines.map (·.1)) (rs.map (·.1)) lines pls) (x.kp (Kp.of fun b o e => e)) fun s1 x1 => ?_
  obtain ⟨tr, hR⟩ := x1.cR
  refine wpAny_BinOp ?_
  refine wpAny_BinOp ?_
  refine wpAny_BinOp ?_
  refine wpAny_Name (wpAny_loadName_local rfl rfl x1.ns m4 ?_)
  refine wpAny_Name (wpAny_loadName_cell rfl rfl rfl hR ?_)
  refine PyProof.Rows.add_int ?_
  refine wpAny_Constant_int ?_
  refine PyProof.Rows.sub_int ?_
  refine wpAny_Name (wpAny_loadName_cell rfl rfl rfl (s := { s1 with toks := s1.toks + 1 + 1 + 1 }) hR ?_)
  refine floordiv_int (by omega) ?_ (Or.inl (PyProof.noPylong_small (by omega)))
  refine PyProof.Rows.ne_int ?_
  refine wpAny_truthy_bool ?_
  have hc : ((((lines.map (·.1)).map Value.ref).toArray.size : Nat) : Int) = lines.length := by simp only [List.size_toArray, List.length_map]
  rw [hcount, hc, bne_self_eq_false, if_neg (by decide)]
  refine wpAny_execs_nil ?_
  refine any_state (P := St w s₀ B L aO aR aP e mg rm nd m (lines.map (·.1)) (rs.map (·.1)) lines pls) (x1.kp (Kp.of fun b o e => e)) fun s2 x2 => ?_
  clear x x1 eO hR
  -- the row's lens
  refine wpAny_execs_cons ?_
  refine wpAny_If ?_
  refine wpAny_isTrue_Compare1 ?_ ?q1
  case q1 => rfl
  obtain ⟨nR, eR⟩ := x2.hp.oR
  have hrl : rs.length < 60 := by rw [hp.length_eq]; exact hlen
  have hpl : pls.length < 60 := by
    have := congrArg List.length hsame
    rw [List.length_map, List.length_map] at this
    omega
  refine comp_rule (cl := []) hh (closureFor_none (by decide)) (by decide) rfl (by decide) rfl (fun _ => rfl) ?_
  refine wpAny_Name (wpAny_loadName_local rfl rfl x2.ns m2 ?_)
  refine ⟨aR, (rs.map (·.1)).map Value.ref, nR, fun _ => true, fun i v => ∃ t, v = .int (mg + signs (wof rs i)) t, rfl, x2.gd, eR, by simp only [List.length_map]; omega, ⟨?_, ?_⟩, ?_⟩
  · intro C i v s₂ m₂ E' hv k₂ G₂ hC hns hm
    exact wpAny_pure ⟨rfl, Kp.refl w _⟩
  · intro C i v s₂ m₂ E' hv _ k₂ G₂ hC hns hm
    obtain ⟨q, hq, rfl⟩ : ∃ q, rs[i]? = some q ∧ v = .ref q.1 := by
      rw [List.getElem?_map, List.getElem?_map] at hv
      cases hq : rs[i]? with
      | none => rw [hq] at hv; cases hv
      | some q => rw [hq] at hv; cases hv; exact ⟨q, rfl, rfl⟩
    have hql : q ∈ lines := hp.mem_iff.mp (List.mem_of_getElem? hq)
    have x3 := x2.kp k₂
    have hw : wof rs i = q.2 := by unfold wof; rw [hq]
    rw [hw]
    refine Call_ ?_ ?q1
    case q1 => rfl
    refine nm_builtin G₂.toG0 (g_len w) b_len ?_
    refine callWith_builtin1 ?_ ?q1 ?q2
    case q1 => rfl
    case q2 => rfl
    refine spliced_more ?_ ?q3
    case q3 => rfl
    refine wpAny_Name (wpAny_loadName_local rfl rfl hns hm ?_)
    refine spliced_nil ?_
    refine len_line hh (by omega) G₂ (x3.hp.lin q hql).at' (small_of hmg.1 hmg.2 (Int.le_trans (hle q hql) (by decide))) fun s₃ t₃ k₃ => ?_
    exact ⟨⟨_, rfl⟩, k₃⟩
  intro D s3 ys kD K hD hys hP
  have x3 := x2.kp K
  rw [filter_true, List.length_map, List.length_map] at hP
  have hI := ints_are hP
  rw [range_wof] at hI
  refine Call_ ?_ ?q1
  case q1 => rfl
  refine nm_builtin x3.gd.toG0 (g_sorted w) b_sorted ?_
  refine callWith_builtin1 ?_ ?q1 ?q2
  case q1 => rfl
  case q2 => rfl
  refine spliced_more ?_ ?q3
  case q3 => rfl
  obtain ⟨nP, eP⟩ := x3.hp.oP
  refine comp_rule (cl := [(Str.ofString "margin", L + 2)]) hh (by rfl) (by decide) rfl (by decide) rfl (fun _ => rfl) ?_
  refine wpAny_Name (wpAny_loadName_local rfl rfl x3.ns m1 ?_)
  refine ⟨aP, (pls.map (·.1)).map Value.ref, nP, fun _ => true, fun i v => ∃ t, v = .int (mg + signs (wof pls i)) t, rfl, x3.gd, eP, by simp only [List.length_map]; omega, ⟨?_, ?_⟩, ?_⟩
  · intro C i v s₂ m₂ E' hv k₂ G₂ hC hns hm
    exact wpAny_pure ⟨rfl, Kp.refl w _⟩
  · intro C i v s₂ m₂ E' hv _ k₂ G₂ hC hns hm
    obtain ⟨q, hq, rfl⟩ : ∃ q, pls[i]? = some q ∧ v = .ref q.1 := by
      rw [List.getElem?_map, List.getElem?_map] at hv
      cases hq : pls[i]? with
      | none => rw [hq] at hv; cases hv
      | some q => rw [hq] at hv; cases hv; exact ⟨q, rfl, rfl⟩
    have hqm := List.mem_of_getElem? hq
    have hl2 : signs q.2 ≤ 100 := by
      have h1 : q.2 ∈ pls.map (·.2) := List.mem_map_of_mem hqm
      rw [hsame] at h1
      obtain ⟨p, hp1, hp2⟩ := List.mem_map.mp h1
      rw [← hp2]
      exact hle p hp1
    have x4 := x3.kp k₂
    have hw : wof pls i = q.2 := by unfold wof; rw [hq]
    rw [hw]
    obtain ⟨tm, hM⟩ := x4.cM
    refine wpAny_BinOp ?_
    refine wpAny_Name (wpAny_loadName_cell rfl rfl rfl hM ?_)
    refine Call_ ?_ ?q1
    case q1 => rfl
    refine nm_glob G₂.toG0 (g_sg w) ?_
    refine callWith_K G₂.kin (keep144 w) ?_ ?q1 ?q2
    case q1 => rfl
    case q2 => rfl
    refine spliced_more ?_ ?q3
    case q3 => rfl
    refine wpAny_Name (wpAny_loadName_local rfl rfl hns hm ?_)
    refine spliced_nil ?_
    refine ⟨G₂.kin, ?_⟩
    refine wpAny_call ?_
    refine signs_code (ws := q.2) hh (by omega) G₂ (x4.hp.pla q hqm) (by have := len_le q.2; omega) (fun z hz => by have := sz_le hz; unfold sz at this; omega) fun s₃ t₃ k₃ => ?_
    refine PyProof.Rows.add_int ?_
    exact ⟨⟨_, rfl⟩, k₃.trans (Kp.of fun b o e => e)⟩
  intro D2 s4 ys2 kD2 K2 hD2 hys2 hP2
  have x4 := x3.kp K2
  rw [filter_true, List.length_map, List.length_map] at hP2
  have hI2 := ints_are hP2
  rw [range_wof] at hI2
  have hysA := K2.cls x3.gd (by nofun) hys
  refine spliced_nil ?_
  have hyl : ys2.length < 64 := by
    have h1 := hP2.length
    rw [List.length_range] at h1
    omega
  refine sorted_ints ⟨_, hys2, rfl, _, rfl⟩ hI2 hyl fun out ns' hI3 hpm hsd => ?_
  obtain ⟨e5, hat⟩ := sortedAll_at s4.heap ys2 out
  have hlD : (sortedAll s4.heap ys2 out).IsList D ys.toArray := ⟨_, sortedAll_old hysA, rfl, _, rfl⟩
  have hlS : (sortedAll s4.heap ys2 out).IsList (s4.heap.objs.size + 1) out.toList.toArray := ⟨_, hat, rfl, e5, by simp⟩
  refine ne_intsK hlD hI hlS hI3 hu ?_
  have heq : (rs.map fun p => mg + signs p.2) = ns' := by
    refine perm_sorted ?_ ?_ hsd
    · refine List.Perm.trans ?_ hpm.symm
      have h1 := hp.map fun p => mg + signs p.2
      have h2 : (pls.map fun p => mg + signs p.2) = lines.map fun p => mg + signs p.2 := by
        have := congrArg (List.map fun ws => mg + signs ws) hsame
        rw [List.map_map, List.map_map] at this
        exact this
      rw [h2]
      exact h1
    · refine List.pairwise_map.mpr (hs.imp fun h => ?_)
      omega
  rw [heq]
  refine wpAny_truthy_bool ?_
  rw [decide_eq_true rfl, if_neg (by decide)]
  refine wpAny_execs_nil ?_
  refine wpAny_execs_nil ?_
  exact h _ (x4.kp (Kp.of fun b o e => sortedAll_old e))
end
end Mine
end

section
open PySem PySem.W PyProof.Rows PySem.Calls
set_option maxRecDepth 100000
namespace Mine

theorem split_uniq {α : Type} {F : α → Prop} : ∀ {u u' v v' : List α} {x x' : α}, u ++ x :: v = u' ++ x' :: v' → (∀ q ∈ u, ¬ F q) → F x → (∀ q ∈ u', ¬ F q) → F x' → u = u' ∧ x = x' ∧ v = v'
  | [], [], v, v', x, x', e, _, _, _, _ => by cases e; exact ⟨rfl, rfl, rfl⟩
  | [], y :: u', v, v', x, x', e, _, hx, hu', _ => by
    injection e with e1 _
    exact absurd (e1 ▸ hx) (hu' y List.mem_cons_self)
  | y :: u, [], v, v', x, x', e, hu, _, _, hx' => by
    injection e with e1 _
    exact absurd (e1 ▸ hx') (hu y List.mem_cons_self)
  | y :: u, z :: u', v, v', x, x', e, hu, hx, hu', hx' => by
    injection e with e1 e2
    obtain ⟨h1, h2, h3⟩ := split_uniq e2 (fun q hq => hu q (List.mem_cons_of_mem _ hq)) hx (fun q hq => hu' q (List.mem_cons_of_mem _ hq)) hx'
    exact ⟨by rw [e1, h1], h2, h3⟩

section
variable {prog : Program} {w : World} {A : Around} {E : Value → Shared → Prop} {s : Shared}
variable {s₀ : Shared} {B L aO aR aP e : Addr} {mg rm a b c : Int} {nd : Option Int} {m : Str → Option Value} {lines pls rs : List (Addr × List Str)}

/-- what the locals say between turns -/
structure Lo (aO aR aP : Addr) (a b c T : Int) (m : Str → Option Value) : Prop where
  small : ∃ t, m "small" = some (.int a t)
  middle : ∃ t, m "middle" = some (.int b t)
  great : ∃ t, m "great" = some (.int c t)
  total : ∃ t, m "total" = some (.int T t)
  opened : m "opened" = some (.ref aO)
  row : m "row" = some (.ref aR)
  plain : m "plain" = some (.ref aP)

/-- what the lines are between turns -/
structure Pu (a b c rm : Int) (rs lines pls : List (Addr × List Str)) : Prop where
  perm : rs.Perm lines
  sorted : rs.Pairwise (fun x y => signs x.2 ≤ signs y.2)
  same : pls.map (·.2) = lines.map (·.2)
  good : Good a b c rm (lines.map (·.2))

theorem Pu.put {n : Int} {k : Nat} {y : Str} {lines' : List (Addr × List Str)} (H : Ch a b c rm) (p : Pu a b c rm rs lines pls) (hn : n = sz y) (hy : sz y = a ∨ sz y = b ∨ sz y = c) (hk : k ≤ rs.length)
    (h1 : ∀ j, j < k → signs (wof rs j) ≤ rm - n) (h2 : ∀ j, k ≤ j → j < rs.length → rm - n < signs (wof rs j)) (hput : Put rs lines lines' k y) :
    Good a b c rm (lines'.map (·.2)) ∧ tot (lines'.map (·.2)) = tot (lines.map (·.2)) + sz y ∧ lines'.length ≤ lines.length + 1 ∧
    ((∀ q ∈ pls, rm < signs q.2 + n) ∨ (∃ q1 b ws q2, pls = q1 ++ (b, ws) :: q2 ∧ (∀ q ∈ q1, rm < signs q.2 + n) ∧ signs ws + n ≤ rm)) ∧
    ∀ pls', PutP rm n pls pls' y → pls'.map (·.2) = lines'.map (·.2) := by
  subst hn
  have posy : 0 < sz y := by unfold sz; omega
  rcases hput with ⟨rfl, ad, rfl⟩ | ⟨l1, ad, ws, l2, hk0, hget, rfl, rfl⟩
  · have hall : ∀ q ∈ lines, rm < signs q.2 + sz y := by
      intro q hq
      obtain ⟨j, hj, e⟩ := List.getElem_of_mem (p.perm.mem_iff.mpr hq)
      have := h2 j (Nat.zero_le _) hj
      unfold wof at this
      rw [List.getElem?_eq_getElem hj, e] at this
      dsimp only at this
      omega
    have hwss : ∀ ws ∈ lines.map (·.2), rm < signs ws + sz y := by
      intro ws hws
      obtain ⟨q, hq, rfl⟩ := List.mem_map.mp hws
      exact hall q hq
    have hpl : ∀ q ∈ pls, rm < signs q.2 + sz y := fun q hq => hwss _ (by rw [← p.same]; exact List.mem_map_of_mem hq)
    refine ⟨?_, ?_, ?_, .inl hpl, ?_⟩
    · rw [List.map_append]
      exact p.good.fresh H hy hwss
    · rw [List.map_append, tot_append]
      show _ + tot [[y]] = _
      rw [tot_cons, signs_one]
      show _ + (sz y + 0) = _
      omega
    · rw [List.length_append]; exact Nat.le_refl _
    · rintro pls' (⟨_, b', rfl⟩ | ⟨q1, b', ws', q2, rfl, _, hf, _⟩)
      · rw [List.map_append, List.map_append, p.same]
        rfl
      · have := hpl (b', ws') (by simp)
        dsimp only at this
        omega
  · have hws : signs ws ≤ rm - sz y := by
      have := h1 (k - 1) (by omega)
      unfold wof at this
      rw [hget] at this
      exact this
    have hl1 : ∀ q ∈ l1, rm < signs q.2 + sz y := fullest H posy p.good p.perm p.sorted hget hws fun j q hj hq => by
      obtain ⟨hlt, e⟩ := List.getElem?_eq_some_iff.mp hq
      have := h2 j (by omega) hlt
      unfold wof at this
      rw [hq] at this
      exact this
    have hfit : signs ws + sz y ≤ rm := by omega
    have hsame := p.same
    rw [List.map_append, List.map_cons] at hsame
    obtain ⟨q1, r, rfl, e1, e2⟩ := List.map_eq_append_iff.mp hsame
    obtain ⟨⟨b', ws'⟩, q2, rfl, e3, e4⟩ := List.map_eq_cons_iff.mp e2
    dsimp only at e3
    subst e3
    have hq1 : ∀ q ∈ q1, rm < signs q.2 + sz y := by
      intro q hq
      have : q.2 ∈ l1.map (·.2) := by rw [← e1]; exact List.mem_map_of_mem hq
      obtain ⟨p', hp', e5⟩ := List.mem_map.mp this
      rw [← e5]
      exact hl1 p' hp'
    refine ⟨?_, ?_, ?_, .inr ⟨q1, b', ws', q2, rfl, hq1, hfit⟩, ?_⟩
    · have g := p.good
      rw [List.map_append, List.map_cons] at g ⊢
      refine g.onto hy hfit fun q hq => ?_
      obtain ⟨p', hp', e5⟩ := List.mem_map.mp hq
      rw [← e5]
      exact hl1 p' hp'
    · rw [List.map_append, List.map_cons, List.map_append, List.map_cons, tot_append, tot_append, tot_cons, tot_cons]
      dsimp only
      rw [signs_append, signs_one]
      omega
    · rw [List.length_append, List.length_append, List.length_cons, List.length_cons]; omega
    · rintro pls' (⟨hn, _⟩ | ⟨q1', b'', ws'', q2', e5, hn, hf, rfl⟩)
      · have := hn (b', ws') (by simp)
        dsimp only at this
        omega
      · obtain ⟨i1, i2, i3⟩ := split_uniq (F := fun q : Addr × List Str => signs q.2 + sz y ≤ rm) e5 (fun q hq => by have := hq1 q hq; omega) hfit (fun q hq => by have := hn q hq; omega) hf
        cases i2
        subst i1 i3
        rw [List.map_append, List.map_cons, List.map_append, List.map_cons, e1, e4]

set_option maxHeartbeats 4000000 in
/-- one turn -/
theorem turn {i : Nat} {xv : Int} {Q : Flow → Shared → Prop} (P : Pg prog) (hB : B = e + 1) (x : St w s₀ B L aO aR aP e mg rm nd m (lines.map (·.1)) (rs.map (·.1)) lines pls s) (hh : A.handled = none) (hr : A.depth + 9 < recursionLimit) (hu : A.units + 64 < cLine)
    (hmg : 0 ≤ mg ∧ mg ≤ 2) (hrm : rm ≤ 54) (hc30 : a ≤ 30 ∧ b ≤ 30 ∧ c ≤ 30) (H : Ch a b c rm) (lo : Lo aO aR aP a b c (tot (lines.map (·.2))) m) (pu : Pu a b c rm rs lines pls) (hi : i ≤ 30) (hlen : lines.length ≤ i)
    (m5 : ∃ t, m "k" = some (.int (i : Int) t)) (m6 : ∃ t, m "x" = some (.int xv t))
    (h : ∀ nd' m' (rs' lines' pls' : List (Addr × List Str)) s', St w s₀ B L aO aR aP e mg rm nd' m' (lines'.map (·.1)) (rs'.map (·.1)) lines' pls' s' → Lo aO aR aP a b c (tot (lines'.map (·.2))) m' → Pu a b c rm rs' lines' pls' → lines'.length ≤ i + 1 → Q .next s') :
    wpAny (model prog w) A (execs turnBody (lenv L)) Q E s := by
  have pa := H.pa
  have pb := H.pb
  have pc := H.pc
  have pr := H.pr
  have hle : ∀ p ∈ lines, signs p.2 ≤ rm := fun p hp => pu.good.le _ (List.mem_map_of_mem hp)
  have hrl : rs.length = lines.length := pu.perm.length_eq
  have hpl : pls.length = lines.length := by
    have := congrArg List.length pu.same
    rwa [List.length_map, List.length_map] at this
  refine tu_words x ⟨by omega, by omega⟩ ⟨by omega, by omega⟩ ⟨by omega, by omega⟩ (k := i) (by omega) lo.small lo.middle lo.great lo.total m5 m6 fun y m1 s1 x1 hy hw ht hm1 => ?_
  have hsy : 1 ≤ sz y ∧ sz y ≤ 30 := by rcases hy with h | h | h <;> omega
  have lo1 : ∀ z : Str, z ≠ "word" → z ≠ "total" → m1 z = m z := hm1
  refine tu_bis x1 hh (by omega) hmg ⟨by omega, by omega⟩ ⟨by omega, by omega⟩ (by omega) (fun p hp => pu.perm.mem_iff.mp hp) (fun p hp => Int.le_trans (hle p hp) (by omega)) pu.sorted ((hm1 _ (by decide) (by decide)).trans lo.row) fun k m2 s2 x2 hk1 hk2 hk3 hat hm2 => ?_
  obtain ⟨tw, hw⟩ := hw
  have q2 : ∀ z : Str, z ≠ "word" → z ≠ "total" → z ≠ "at" → m2 z = m z := fun z h1 h2 h3 => (hm2 z h3).trans (hm1 z h1 h2)
  refine tu_lines (n := 0) (y := y) (ty := tw) P hB x2 hh hr hmg (by omega) pu.perm (fun p hp => Int.le_trans (hle p hp) (by omega)) (by omega) pu.sorted hk1 ((q2 _ (by decide) (by decide) (by decide)).trans lo.row) hat ((hm2 _ (by decide)).trans hw) ((q2 _ (by decide) (by decide) (by decide)).trans lo.opened)
    fun rs' lines' m3 s3 x3 hp3 hs3 hput hm3 => ?_
  obtain ⟨g1, g2, g3, g4, g5⟩ := pu.put H rfl hy hk1 hk2 hk3 hput
  have q3 : ∀ z : Str, z ≠ "word" → z ≠ "total" → z ≠ "at" → z ≠ "line" → m3 z = m z := fun z h1 h2 h3 h4 => (hm3 z h4).trans (q2 z h1 h2 h3)
  have hlep : ∀ p ∈ pls, signs p.2 ≤ 100 := fun p hp => by
    have : p.2 ∈ lines.map (·.2) := by rw [← pu.same]; exact List.mem_map_of_mem hp
    have := pu.good.le _ this
    omega
  refine tu_plain (ty := tw) hB x3 hh hr (by omega) (by omega) hlep ((q3 _ (by decide) (by decide) (by decide) (by decide)).trans lo.plain) ((hm3 _ (by decide)).trans ((hm2 _ (by decide)).trans hw)) g4 fun pls' m4 s4 x4 hpp hm4 => ?_
  have hsame := g5 pls' hpp
  have q4 : ∀ z : Str, z ≠ "word" → z ≠ "total" → z ≠ "at" → z ≠ "line" → z ≠ "fits" → m4 z = m z := fun z h1 h2 h3 h4 h5 => (hm4 z h5).trans (q3 z h1 h2 h3 h4)
  have ht4 : ∃ t, m4 "total" = some (.int (tot (lines'.map (·.2))) t) := by
    obtain ⟨t, ht⟩ := ht
    exact ⟨t, by rw [g2]; exact (hm4 _ (by decide)).trans ((hm3 _ (by decide)).trans ((hm2 _ (by decide)).trans ht))⟩
  have hcount := count H g1
  rw [List.length_map] at hcount
  have lo' : Lo aO aR aP a b c (tot (lines'.map (·.2))) m4 := by
    have qq : ∀ z : Str, z ≠ "word" → z ≠ "total" → z ≠ "at" → z ≠ "line" → z ≠ "fits" → m4 z = m z := q4
    exact ⟨by rw [qq _ (by decide) (by decide) (by decide) (by decide) (by decide)]; exact lo.small, by rw [qq _ (by decide) (by decide) (by decide) (by decide) (by decide)]; exact lo.middle, by rw [qq _ (by decide) (by decide) (by decide) (by decide) (by decide)]; exact lo.great, ht4,
      by rw [qq _ (by decide) (by decide) (by decide) (by decide) (by decide)]; exact lo.opened, by rw [qq _ (by decide) (by decide) (by decide) (by decide) (by decide)]; exact lo.row, by rw [qq _ (by decide) (by decide) (by decide) (by decide) (by decide)]; exact lo.plain⟩
  refine tu_check x4 hh hr hu hmg ⟨by omega, by omega⟩ (by omega) (fun p hp => Int.le_trans (g1.le _ (List.mem_map_of_mem hp)) (by omega)) hp3 hs3 hsame hcount lo'.plain lo'.row lo'.opened ht4 fun s5 x5 => ?_
  exact h _ _ rs' lines' pls' s5 x5 lo' ⟨hp3, hs3, hsame, g1⟩ (by omega)
end
end Mine
end

section
open PySem PySem.W PyProof.Rows PySem.Calls
set_option maxRecDepth 100000
namespace Mine

theorem strs_are {ws : List Str} {val : Nat → Str} : ∀ {idx : List Nat} {ys : List Value}, Paired (fun i v => ∃ t, v = Value.str (val i) t) idx ys → StrsAre ys (idx.map val)
  | _, _, .nil => .nil
  | _, _, .cons h t => by
    obtain ⟨u, rfl⟩ := h
    exact .cons _ _ (strs_are (ws := ws) t)

theorem join_blank (x : Str) : Txt.join "" [" ", x] = Str.ofString " " ++ x := by
  unfold Txt.join
  rw [StrLaws.glued_eq_join]
  show Str.ofString " " ++ Str.ofString "" ++ x = _
  rw [Str.append_right_empty (y := Str.ofString "") rfl]

def wAt (ws : List Str) (i : Nat) : Str := match ws[i]? with | some x => Str.ofString " " ++ x | none => Str.ofString ""

theorem range_text (ws : List Str) : (List.range ws.length).map (wAt ws) = ws.map fun x => Txt.join "" [" ", x] := by
  refine List.ext_getElem (by simp) fun i h1 h2 => ?_
  simp only [List.length_map, List.length_range] at h1
  simp [h1, wAt, join_blank]

section
variable {prog : Program} {w : World} {A : Around} {E : Value → Shared → Prop} {s : Shared}
theorem g_str (w : World) : globK (KK w) "str" = none := by kernel_rfl
theorem b_str : bootBuiltins "str" = some (.type "str") := PyProof.Rows.Boot.«str»

variable {s₀ : Shared} {B L aO aR aP e : Addr} {mg rm : Int} {nd : Option Int} {m : Str → Option Value} {lines pls : List (Addr × List Str)} {rw : List Addr}

set_option maxHeartbeats 8000000 in
theorem fin_law {Q : Flow → Shared → Prop} (x : St w s₀ B L aO aR aP e mg rm nd m (lines.map (·.1)) rw lines pls s) (hh : A.handled = none) (hr : A.depth + 9 < recursionLimit) (hu : A.units + 64 < cLine)
    (hlen : lines.length < 60) (hle : ∀ p ∈ lines, signs p.2 ≤ 100) (hsame : pls.map (·.2) = lines.map (·.2)) (m1 : m "plain" = some (.ref aP)) (m3 : m "opened" = some (.ref aO))
    (h : ∀ s', St w s₀ B L aO aR aP e mg rm nd m (lines.map (·.1)) rw lines pls s' → Q (.ret (.bool true)) s') :
    wpAny (model prog w) A (execs (lawBody.drop 11) (lenv L)) Q E s := by
  obtain ⟨nO, eO⟩ := x.hp.oO
  have hpl : pls.length = lines.length := by
    have := congrArg List.length hsame
    rwa [List.length_map, List.length_map] at this
  refine wpAny_execs_cons ?_
  refine wpAny_Return_some ?_
  refine wpAny_Compare1 ?_ ?q1
  case q1 => rfl
  refine comp_rule (cl := []) hh (closureFor_none (by decide)) (by decide) rfl (by decide) rfl (fun _ => rfl) ?_
  refine wpAny_Name (wpAny_loadName_local rfl rfl x.ns m3 ?_)
  refine ⟨aO, (lines.map (·.1)).map Value.ref, nO, fun _ => true, fun i v => ∃ t, v = .str (textOf (wof lines i)) t, rfl, x.gd, eO, by simp only [List.length_map]; omega, ⟨?_, ?_⟩, ?_⟩
  · intro C i v s₂ m₂ E' hv k₂ G₂ hC hns hm
    exact wpAny_pure ⟨rfl, Kp.refl w _⟩
  · intro C i v s₂ m₂ E' hv _ k₂ G₂ hC hns hm
    obtain ⟨q, hq, rfl⟩ : ∃ q, lines[i]? = some q ∧ v = .ref q.1 := by
      rw [List.getElem?_map, List.getElem?_map] at hv
      cases hq : lines[i]? with
      | none => rw [hq] at hv; cases hv
      | some q => rw [hq] at hv; cases hv; exact ⟨q, rfl, rfl⟩
    have hql := List.mem_of_getElem? hq
    have x3 := x.kp k₂
    have hw : wof lines i = q.2 := by unfold wof; rw [hq]
    rw [hw]
    refine Call_ ?_ ?q1
    case q1 => rfl
    refine nm_builtin G₂.toG0 (g_str w) b_str ?_
    refine PyProof.Rows.callWith_type1 ?_ ?q1 ?q2
    case q1 => rfl
    case q2 => rfl
    refine spliced_more ?_ ?q3
    case q3 => rfl
    refine wpAny_Name (wpAny_loadName_local rfl rfl hns hm ?_)
    refine spliced_nil ?_
    have hl2 := hle q hql
    refine str_line (by show A.units + 1 + 1 < cLine; omega) hh (by omega) G₂ (x3.hp.lin q hql).at' (by have := len_le q.2; omega) (fun z hz => by have := sz_le hz; unfold sz at this; omega) fun s₃ t₃ k₃ => ?_
    exact ⟨⟨_, rfl⟩, k₃⟩
  intro D s3 ys kD K hD hys hP
  have x3 := x.kp K
  rw [filter_true, List.length_map, List.length_map] at hP
  obtain ⟨nP, eP⟩ := x3.hp.oP
  refine comp_rule (cl := []) hh (closureFor_none (by decide)) (by decide) rfl (by decide) rfl (fun _ => rfl) ?_
  refine wpAny_Name (wpAny_loadName_local rfl rfl x3.ns m1 ?_)
  refine ⟨aP, (pls.map (·.1)).map Value.ref, nP, fun _ => true, fun i v => ∃ t, v = .str (textOf (wof pls i)) t, rfl, x3.gd, eP, by simp only [List.length_map]; omega, ⟨?_, ?_⟩, ?_⟩
  · intro C i v s₂ m₂ E' hv k₂ G₂ hC hns hm
    exact wpAny_pure ⟨rfl, Kp.refl w _⟩
  · intro C i v s₂ m₂ E' hv _ k₂ G₂ hC hns hm
    obtain ⟨q, hq, rfl⟩ : ∃ q, pls[i]? = some q ∧ v = .ref q.1 := by
      rw [List.getElem?_map, List.getElem?_map] at hv
      cases hq : pls[i]? with
      | none => rw [hq] at hv; cases hv
      | some q => rw [hq] at hv; cases hv; exact ⟨q, rfl, rfl⟩
    have hqm := List.mem_of_getElem? hq
    have hl2 : signs q.2 ≤ 100 := by
      have h1 : q.2 ∈ pls.map (·.2) := List.mem_map_of_mem hqm
      rw [hsame] at h1
      obtain ⟨p, hp1, hp2⟩ := List.mem_map.mp h1
      rw [← hp2]
      exact hle p hp1
    have x4 := x3.kp k₂
    have hw : wof pls i = q.2 := by unfold wof; rw [hq]
    rw [hw]
    obtain ⟨vs, nq, eq, hvs⟩ := x4.hp.pla q hqm
    have hvl : vs.length = q.2.length := hvs.length.symm
    have hql := len_le q.2
    refine MethodCall_ ?_
    refine wpAny_Constant_str ?_
    refine GM.join ?_
    refine callWith_method1 ?_ ?q1 ?q2
    case q1 => rfl
    case q2 => rfl
    refine spliced_more ?_ ?q3
    case q3 => rfl
    refine comp_rule (cl := []) hh (closureFor_none (by decide)) (by decide) rfl (by decide) rfl (fun _ => rfl) ?_
    refine wpAny_Name (wpAny_loadName_local rfl rfl (s := { s₂ with toks := s₂.toks + 1 }) hns hm ?_)
    refine ⟨q.1, vs, nq, fun _ => true, fun i v => ∃ t, v = .str (wAt q.2 i) t, rfl, G₂, eq, by omega, ⟨?_, ?_⟩, ?_⟩
    · intro C i v s₂ m₂ E' hv k₂ G₂ hC hns hm
      exact wpAny_pure ⟨rfl, Kp.refl w _⟩
    · intro C2 i2 v2 s5 m5 E5 hv5 _ k5 G5 hC5 hns5 hm5
      obtain ⟨z, hz, t, rfl⟩ := Paired.get hvs hv5
      have hzl := sz_le (List.mem_of_getElem? hz)
      unfold sz at hzl
      refine wpAny_BinOp ?_
      refine wpAny_Constant_str ?_
      refine wpAny_Name (wpAny_loadName_local rfl rfl (s := { s5 with toks := s5.toks + 1 }) hns5 hm5 ?_)
      refine PyProof.Rows.add_str (fun t' tk => ?_) ?_
      · have : wAt q.2 i2 = Str.ofString " " ++ z := by unfold wAt; rw [hz]
        rw [this]
        exact ⟨⟨t', rfl⟩, Kp.of fun b o e => e⟩
      · have : (Str.ofString " ").length = 1 := rfl
        rw [sizeLine_eq]
        omega
    intro D5 s6 ys6 k6 K6 hD6 hys6 hP6
    rw [filter_true, hvl] at hP6
    have hS6 := strs_are (ws := q.2) hP6
    rw [range_text] at hS6
    refine spliced_nil ?_
    refine join_list ⟨_, hys6, rfl, _, rfl⟩ hS6 ?_ fun t' k' => ?_
    · rw [List.length_map, List.map_map]
      show _ + q.2.length * 0 ≤ _
      have hsum : ∀ (l : List Str), (∀ x ∈ l, x.length < 200) → (l.map fun x => (Txt.join "" [" ", x]).length).sum ≤ l.length * 201 := by
        intro l
        induction l with
        | nil => intro _; exact Nat.zero_le _
        | cons x l ih =>
          intro hx
          have h1 := ih fun y hy => hx y (List.mem_cons_of_mem _ hy)
          have h2 := hx x List.mem_cons_self
          have h3 : (Txt.join "" [" ", x]).length = 1 + x.length := by
            rw [join_blank, Str.length_append]
            rfl
          rw [List.map_cons, List.sum_cons, List.length_cons, h3, Nat.succ_mul]
          omega
      have := hsum q.2 fun z hz => by have := sz_le hz; unfold sz at this; omega
      show (q.2.map fun x => (Txt.join "" [" ", x]).length).sum + _ ≤ _
      omega
    · refine ⟨⟨t', rfl⟩, ?_⟩
      exact ((Kp.of (s := s₂) (tk := s₂.toks + 1) fun b o e => e).trans K6).trans (Kp.of fun b o e => e)
  intro D2 s4 ys2 kD2 K2 hD2 hys2 hP2
  have x4 := x3.kp K2
  rw [filter_true, List.length_map, List.length_map] at hP2
  have hysA := K2.cls x3.gd (by nofun) hys
  have h1 := hP.length
  have h2 := hP2.length
  rw [List.length_range] at h1 h2
  refine P.eq_list (e := fun _ => true) hysA hys2 (by rw [List.size_toArray, List.size_toArray]; omega) (fun j j1 j2 => ?_) (by omega) ?_
  · have g1 : ys[j]? = some (ys.toArray[j]) := by simp
    have g2 : ys2[j]? = some (ys2.toArray[j]) := by simp
    obtain ⟨i1, e1, t1, r1⟩ := Paired.get hP g1
    obtain ⟨i2, e2, t2, r2⟩ := Paired.get hP2 g2
    rw [List.getElem?_range] at e1 e2
    · cases e1
      cases e2
      have hw : wof lines j = wof pls j := by
        unfold wof
        have := congrArg (fun l => l[j]?) hsame
        rw [List.getElem?_map, List.getElem?_map] at this
        cases a1 : lines[j]? with
        | none =>
          cases a2 : pls[j]? with
          | none => rfl
          | some q => rw [a1, a2] at this; cases this
        | some p =>
          cases a2 : pls[j]? with
          | none => rw [a1, a2] at this; cases this
          | some q =>
            rw [a1, a2] at this
            injection this with this
            exact this.symm
      rw [r1, r2, hw]
      have g := PySem.SeqRoads2.EqGives.str (textOf (wof pls j)) (textOf (wof pls j)) t1 t2
      rwa [beq_self_eq_true] at g
    · rw [List.size_toArray] at j2
      omega
    · rw [List.size_toArray] at j1
      omega
  · have : (List.range ys.toArray.size).all (fun _ => true) = true := List.all_eq_true.mpr fun _ _ => rfl
    rw [this]
    exact h _ x4
end
end Mine
end

section
open PySem PySem.W PyProof.Rows PySem.Calls
set_option maxRecDepth 100000
namespace Mine

theorem Ns.uniq {h : Heap} {L : Addr} {m m' : Str → Option Value} (x : h.Ns L m) (y : h.Ns L m') : m = m' := by
  obtain ⟨o, es, ep, e, d, _, f⟩ := x
  obtain ⟨o', es', ep', e', d', _, f'⟩ := y
  rw [e] at e'
  cases e'
  rw [d] at d'
  cases d'
  funext z
  rw [← f z, ← f' z]

theorem LineOver.far {B : Addr} {h h' : Heap} {a : Addr} {mg : Int} {ws : List Str} (x : LineOver B h a mg ws) (k : ∀ b o, @LE.le Nat _ B b → h.get? b = some o → h'.get? b = some o) : LineOver B h' a mg ws := by
  obtain ⟨ha, d, Ts, n, y, hd, hT⟩ := x
  refine ⟨ha, d, Ts, n, ⟨k _ _ ha y.at_, ?_, y.len, ?_⟩, hd, hT⟩
  · obtain ⟨es, q, t, e, r⟩ := y.dict
    exact ⟨es, q, t, k _ _ hd e, r⟩
  · intro i T z h1 h2
    obtain ⟨t1, t2, e⟩ := y.pair i T z h1 h2
    exact ⟨t1, t2, k _ _ (hT T (List.mem_of_getElem? h1)) e⟩

theorem Hp.far {w : World} {B aO aR aP : Addr} {mg : Int} {op rw : List Addr} {lines pls : List (Addr × List Str)} {h h' : Heap} (H : Hp w B aO aR aP mg op rw lines pls h)
    (k : ∀ b o, (@LE.le Nat _ B b ∨ b = aO ∨ b = aR ∨ b = aP) → h.get? b = some o → h'.get? b = some o) : Hp w B aO aR aP mg op rw lines pls h' :=
  { H with
    oO := let ⟨n, e⟩ := H.oO; ⟨n, k _ _ (.inr (.inl rfl)) e⟩
    oR := let ⟨n, e⟩ := H.oR; ⟨n, k _ _ (.inr (.inr (.inl rfl))) e⟩
    oP := let ⟨n, e⟩ := H.oP; ⟨n, k _ _ (.inr (.inr (.inr rfl))) e⟩
    lin := fun p hp => (H.lin p hp).far fun b o hb e => k b o (.inl hb) e
    pla := fun p hp => let ⟨vs, n, e, q⟩ := H.pla p hp; ⟨vs, n, k _ _ (.inl (H.bp p hp)) e, q⟩ }

section
variable {prog : Program} {w : World} {A : Around} {E : Value → Shared → Prop} {s : Shared}
variable {s₀ : Shared} {B L aO aR aP e : Addr} {mg rm a b c : Int} {nd : Option Int} {m m' : Str → Option Value} {op rw : List Addr} {lines pls rs : List (Addr × List Str)}

/-- the loop's own objects and the locals may have turned: the state is counted anew -/
theorem St.again (x : St w s₀ B L aO aR aP e mg rm nd m op rw lines pls s) {it : Addr} (h1 : @LT.lt Nat _ aP it) (h2 : @LT.lt Nat _ it e) {h' : Heap} {tk : Nat} (hn : h'.Ns L m')
    (k : ∀ b o, b ≠ L → b ≠ e → b ≠ it → s.heap.get? b = some o → h'.get? b = some o) (he : ∃ o, h'.get? e = some o) : St w { s with heap := h', toks := tk } B L aO aR aP e mg rm nd m' op rw lines pls { s with heap := h', toks := tk } := by
  obtain ⟨a1, a2, a3, a4, a5, a6⟩ := x.ap
  have g1 : @LT.lt Nat _ aP it := h1
  have g2 : @LT.lt Nat _ it e := h2
  have ne : ∀ {b : Addr}, (@LT.lt Nat _ b L ∨ (@LT.lt Nat _ L b ∧ @LT.lt Nat _ b it) ∨ @LT.lt Nat _ e b) → b ≠ L ∧ b ≠ e ∧ b ≠ it := by
    intro b hb
    have f1 : @LT.lt Nat _ (L + 3) aO := a2
    have f2 : @LT.lt Nat _ aO aR := a3
    have f3 : @LT.lt Nat _ aR aP := a4
    rcases hb with hb | ⟨hb1, hb2⟩ | hb
    · exact ⟨Nat.ne_of_lt hb, Nat.ne_of_lt (by omega), Nat.ne_of_lt (by omega)⟩
    · exact ⟨Nat.ne_of_gt hb1, Nat.ne_of_lt (by omega), Nat.ne_of_lt hb2⟩
    · exact ⟨Nat.ne_of_gt (by omega), Nat.ne_of_gt hb, Nat.ne_of_gt (by omega)⟩
  have k' : ∀ {b : Addr} {o : Obj}, (@LT.lt Nat _ b L ∨ (@LT.lt Nat _ L b ∧ @LT.lt Nat _ b it) ∨ @LT.lt Nat _ e b) → s.heap.get? b = some o → h'.get? b = some o := fun hb q => let ⟨p1, p2, p3⟩ := ne hb; k _ _ p1 p2 p3 q
  refine ⟨x.ap, x.gd.low fun b o hb q => k' (.inl (Nat.lt_of_lt_of_le hb a1)) q, hn, ?_, ?_, ?_, x.hp.far fun b o hb q => k' ?_ q, fun _ _ _ _ _ _ _ _ _ _ q => q, he, id, rfl⟩
  · obtain ⟨t, o, q, d⟩ := x.cR
    exact ⟨t, o, k' (b := L + 1) (.inr (.inl ⟨by omega, by omega⟩)) q, d⟩
  · obtain ⟨t, o, q, d⟩ := x.cM
    exact ⟨t, o, k' (b := L + 2) (.inr (.inl ⟨by omega, by omega⟩)) q, d⟩
  · obtain ⟨v, ⟨o, q, d⟩, r⟩ := x.cN
    exact ⟨v, ⟨o, k' (b := L + 3) (.inr (.inl ⟨by omega, by omega⟩)) q, d⟩, r⟩
  · rcases hb with hb | rfl | rfl | rfl
    · exact .inr (.inr (Nat.lt_of_lt_of_le a6 hb))
    · exact .inr (.inl ⟨by omega, by omega⟩)
    · exact .inr (.inl ⟨by omega, by omega⟩)
    · exact .inr (.inl ⟨by omega, by omega⟩)

theorem St.self (x : St w s₀ B L aO aR aP e mg rm nd m op rw lines pls s) : St w s B L aO aR aP e mg rm nd m op rw lines pls s :=
  ⟨x.ap, x.gd, x.ns, x.cR, x.cM, x.cN, x.hp, fun _ _ _ _ _ _ _ _ _ _ q => q, x.room, id, rfl⟩

theorem Lo.upd {T : Int} (lo : Lo aO aR aP a b c T m) (h : ∀ z : Str, z ≠ "x" → z ≠ "k" → m' z = m z) : Lo aO aR aP a b c T m' :=
  ⟨by rw [h _ (by decide) (by decide)]; exact lo.small, by rw [h _ (by decide) (by decide)]; exact lo.middle, by rw [h _ (by decide) (by decide)]; exact lo.great, by rw [h _ (by decide) (by decide)]; exact lo.total,
    by rw [h _ (by decide) (by decide)]; exact lo.opened, by rw [h _ (by decide) (by decide)]; exact lo.row, by rw [h _ (by decide) (by decide)]; exact lo.plain⟩

/-- what stands between two turns -/
def Jn (w : World) (sE : Shared) (B L aO aR aP e it l : Addr) (items : Array Value) (a b c mg rm : Int) (i : Nat) (s : Shared) : Prop :=
  ∃ nd m rs lines pls, St w s B L aO aR aP e mg rm nd m (lines.map (·.1)) (rs.map (·.1)) lines pls s ∧ Lo aO aR aP a b c (tot (lines.map (·.2))) m ∧ Pu a b c rm rs lines pls ∧ lines.length ≤ i ∧ Kp w sE s ∧
    (∃ old, IsEnum s.heap e it (i : Nat) old) ∧ s.heap.IsListIter it l i ∧ s.heap.IsList l items ∧ i ≤ items.size

set_option maxHeartbeats 4000000 in
theorem law_loop {R : Result → Shared → Prop} {sE : Shared} {it l : Addr} {items : Array Value} {pi pv pt : Pos} {x1} (P : Pg prog) (hB : B = e + 1) (hh : A.handled = none) (hr : A.depth + 9 < recursionLimit) (hu : A.units + 64 < cLine)
    (hmg : 0 ≤ mg ∧ mg ≤ 2) (hrm : rm ≤ 54) (hc30 : a ≤ 30 ∧ b ≤ 30 ∧ c ≤ 30) (H : Ch a b c rm) (hitems : ∀ (i : Nat) (v : Value), items[i]? = some v → ∃ n t, v = Value.int n t) (hsz : items.size ≤ 30)
    (hl1 : @LT.lt Nat _ aP l) (hl2 : @LT.lt Nat _ l it) (hl3 : @LT.lt Nat _ it e) (hE : @LE.le Nat _ sE.heap.objs.size L)
    (h0 : Jn w sE B L aO aR aP e it l items a b c mg rm 0 s)
    (h : ∀ s' (nd : Option Int) m rs lines pls, St w s' B L aO aR aP e mg rm nd m (lines.map (·.1)) (rs.map (·.1)) lines pls s' → Lo aO aR aP a b c (tot (lines.map (·.2))) m → Pu a b c rm rs lines pls → lines.length ≤ items.size → Kp w sE s' → R (.ok .next) s') :
    codeAny (model prog w) A (.forLoop (.Tuple [.Name (Str.ofString "k") pi, .Name (Str.ofString "x") pv] x1 pt) (.ref e) turnBody [] (lenv L)) R s := by
  obtain ⟨_, _, _, _, _, x0, _⟩ := id h0
  obtain ⟨a1, a2, a3, a4, a5, a6⟩ := x0.ap
  have hl1' : @LT.lt Nat _ aP l := hl1
  have hl2' : @LT.lt Nat _ l it := hl2
  have hl3' : @LT.lt Nat _ it e := hl3
  have gt : ∀ {x y : Nat}, y < x → (x : Addr) ≠ y := fun h => Nat.ne_of_gt h
  have lt : ∀ {x y : Nat}, x < y → (x : Addr) ≠ y := fun h => Nat.ne_of_lt h
  refine enum_loop (items := items) (J := Jn w sE B L aO aR aP e it l items a b c mg rm) hh rfl rfl rfl (gt hl3') (gt (by show @LT.lt Nat _ L e; omega)) (gt (by show @LT.lt Nat _ L it; omega)) (gt (by show @LT.lt Nat _ L l; omega)) (lt (by omega)) (lt hl2') ?_ h0 ?_ ?_
  · rintro i s' ⟨nd, m, rs, lines, pls, x, _, _, _, _, p1, p2, p3, p4⟩
    exact ⟨p1, p2, p3, ⟨m, x.ns⟩, p4⟩
  · rintro i v m s₁ h₅ tk tk2 hv ⟨nd, mo, rs, lines, pls, x, lo, pu, hlen, K, _, _, _, hi⟩ hn hn5 hE5 hit5 hl5 hk5
    have hm : m = mo := Ns.uniq hn x.ns
    subst hm
    obtain ⟨xv, tv, rfl⟩ := hitems i v hv
    obtain ⟨old, hE5'⟩ := id hE5
    have hlt : i < items.size := (Array.getElem?_eq_some_iff.mp hv).1
    have x5 := x.again (tk := tk2) (Nat.lt_trans hl1 hl2) hl3 hn5 hk5 ⟨_, hE5'⟩
    have lo5 : Lo aO aR aP a b c (tot (lines.map (·.2))) (fun y => if y = Str.ofString "x" then some (Value.int xv tv) else if y = Str.ofString "k" then some (.int (i : Nat) tk) else m y) := by
      exact lo.upd fun z h1 h2 => (if_neg h1).trans (if_neg h2)
    refine turn (i := i) P hB x5 hh hr hu hmg hrm hc30 H lo5 pu (by omega) hlen ⟨tk, (if_neg (by decide)).trans (if_pos rfl)⟩ ⟨tv, if_pos rfl⟩ fun nd' m' rs' lines' pls' s' x' lo' pu' hlen' => ⟨rfl, nd', m', rs', lines', pls', x'.self, lo', pu', hlen', ?_, ?_, ?_, ?_, hlt⟩
    · refine ⟨fun q o q1 q2 eq => ?_, fun _ => x'.gd, fun g => x'.gens (K.gens g), x'.os.trans K.os⟩
      have hq : @LT.lt Nat _ q L := Nat.lt_of_lt_of_le (Heap.lt_size eq) hE
      refine x'.kt q o (by show @LT.lt Nat _ q B; omega) q1 q2 (lt (by show @LT.lt Nat _ q L; omega)) (lt (by show @LT.lt Nat _ q (L + 3); omega)) (lt (by show @LT.lt Nat _ q aO; omega)) (lt (by show @LT.lt Nat _ q aR; omega)) (lt (by show @LT.lt Nat _ q aP; omega)) ?_
      exact hk5 q o (lt (by show @LT.lt Nat _ q L; omega)) (lt (by show @LT.lt Nat _ q e; omega)) (lt (by show @LT.lt Nat _ q it; omega)) (K.keep q o q1 q2 eq)
    · exact ⟨old, x'.kt e _ (by show @LT.lt Nat _ e B; omega) (gt (by show @LT.lt Nat _ 90 e; omega)) (gt (by show @LT.lt Nat _ 97 e; omega)) (gt (by show @LT.lt Nat _ L e; omega)) (gt (by show @LT.lt Nat _ (L + 3) e; omega)) (gt (by show @LT.lt Nat _ aO e; omega)) (gt (by show @LT.lt Nat _ aR e; omega)) (gt (by show @LT.lt Nat _ aP e; omega)) hE5'⟩
    · obtain ⟨o, eo, r⟩ := hit5
      exact ⟨o, x'.kt it _ (by show @LT.lt Nat _ it B; omega) (gt (by show @LT.lt Nat _ 90 it; omega)) (gt (by show @LT.lt Nat _ 97 it; omega)) (gt (by show @LT.lt Nat _ L it; omega)) (gt (by show @LT.lt Nat _ (L + 3) it; omega)) (gt (by show @LT.lt Nat _ aO it; omega)) (gt (by show @LT.lt Nat _ aR it; omega)) (gt (by show @LT.lt Nat _ aP it; omega)) eo, r⟩
    · obtain ⟨o, eo, r⟩ := hl5
      exact ⟨o, x'.kt l _ (by show @LT.lt Nat _ l B; omega) (gt (by show @LT.lt Nat _ 90 l; omega)) (gt (by show @LT.lt Nat _ 97 l; omega)) (gt (by show @LT.lt Nat _ L l; omega)) (gt (by show @LT.lt Nat _ (L + 3) l; omega)) (gt (by show @LT.lt Nat _ aO l; omega)) (gt (by show @LT.lt Nat _ aR l; omega)) (gt (by show @LT.lt Nat _ aP l; omega)) eo, r⟩
  · rintro s' h' ⟨nd, m, rs, lines, pls, x, lo, pu, hlen, K, ⟨old, hE5⟩, _, _, _⟩ hk
    have hL : h'.Ns L m := let ⟨o, es, ep, q, r⟩ := x.ns; ⟨o, es, ep, hk _ _ (lt (by show @LT.lt Nat _ L it; omega)) q, r⟩
    have x5 := x.again (tk := s'.toks) (Nat.lt_trans hl1 hl2) hl3 hL (fun q o _ _ q3 eq => hk q o q3 eq) ⟨_, hk _ _ (gt hl3') hE5⟩
    refine h _ nd m rs lines pls x5 lo pu hlen ⟨fun q o q1 q2 eq => ?_, fun _ => x5.gd, fun g => K.gens g, K.os⟩
    have hq : @LT.lt Nat _ q L := Nat.lt_of_lt_of_le (Heap.lt_size eq) hE
    exact hk q o (lt (by show @LT.lt Nat _ q it; omega)) (K.keep q o q1 q2 eq)
end
end Mine
end

section
open PySem PySem.W PyProof.Rows PySem.Calls
set_option maxRecDepth 100000
namespace Mine

/-- the law's frame before its loop -/
structure Pr (w : World) (sE : Shared) (L : Addr) (m : Str → Option Value) (v1 v2 v3 : Option Value) (os : List (Addr × Obj)) (s : Shared) : Prop where
  z : L = sE.heap.objs.size
  l150 : @LE.le Nat _ 150 L
  gd0 : Gd w sE.heap
  kp : Kp w sE s
  ns : s.heap.Ns L m
  c1 : s.heap.IsCell (L + 1) v1
  c2 : s.heap.IsCell (L + 2) v2
  c3 : s.heap.IsCell (L + 3) v3
  os : ∀ p ∈ os, s.heap.get? p.1 = some p.2 ∧ @LT.lt Nat _ (L + 3) p.1

theorem apart (x : Nat) : x + 1 ≠ x ∧ x + 2 ≠ x ∧ x + 3 ≠ x ∧ x + 2 ≠ x + 1 ∧ x + 3 ≠ x + 1 ∧ x + 3 ≠ x + 2 := ⟨by omega, by omega, by omega, by omega, by omega, by omega⟩

section
variable {w : World} {sE s : Shared} {L : Addr} {m m' : Str → Option Value} {v1 v2 v3 v : Option Value} {os : List (Addr × Obj)} {h' : Heap} {tk : Nat}

theorem Pr.gd (x : Pr w sE L m v1 v2 v3 os s) : Gd w s.heap := x.kp.gd x.gd0
theorem Pr.tok (x : Pr w sE L m v1 v2 v3 os s) : Pr w sE L m v1 v2 v3 os { s with toks := tk } := ⟨x.z, x.l150, x.gd0, x.kp.toks, x.ns, x.c1, x.c2, x.c3, x.os⟩
theorem Pr.loc (x : Pr w sE L m v1 v2 v3 os s) (hn : h'.Ns L m') (hs : Heap.SameBut L s.heap h') : Pr w sE L m' v1 v2 v3 os { s with heap := h', toks := tk } :=
  ⟨x.z, x.l150, x.gd0, x.kp.write (Nat.le_of_eq x.z.symm) hs.extBut, hn, x.c1.sameBut hs (apart L).1, x.c2.sameBut hs (apart L).2.1, x.c3.sameBut hs (apart L).2.2.1,
    fun p hp => ⟨hs.extBut _ _ (Nat.ne_of_gt (Nat.lt_of_le_of_lt (Nat.le_add_right L 3) (x.os p hp).2)) (x.os p hp).1, (x.os p hp).2⟩⟩
theorem Pr.room (x : Pr w sE L m v1 v2 v3 os s) (hn : h'.IsCell (L + 1) v) (hs : Heap.SameBut (L + 1) s.heap h') : Pr w sE L m v v2 v3 os { s with heap := h', toks := tk } :=
  ⟨x.z, x.l150, x.gd0, x.kp.write (x.z ▸ Nat.le_succ L) hs.extBut, x.ns.sameBut hs (Ne.symm (apart L).1), hn, x.c2.sameBut hs (apart L).2.2.2.1, x.c3.sameBut hs (apart L).2.2.2.2.1,
    fun p hp => ⟨hs.extBut _ _ (Nat.ne_of_gt (Nat.lt_of_le_of_lt (Nat.le_add_right (L + 1) 2) (x.os p hp).2)) (x.os p hp).1, (x.os p hp).2⟩⟩
theorem Pr.margin (x : Pr w sE L m v1 v2 v3 os s) (hn : h'.IsCell (L + 2) v) (hs : Heap.SameBut (L + 2) s.heap h') : Pr w sE L m v1 v v3 os { s with heap := h', toks := tk } :=
  ⟨x.z, x.l150, x.gd0, x.kp.write (x.z ▸ Nat.le_add_right L 2) hs.extBut, x.ns.sameBut hs (Ne.symm (apart L).2.1), x.c1.sameBut hs (Ne.symm (apart L).2.2.2.1), hn, x.c3.sameBut hs (apart L).2.2.2.2.2,
    fun p hp => ⟨hs.extBut _ _ (Nat.ne_of_gt (Nat.lt_of_le_of_lt (Nat.le_add_right (L + 2) 1) (x.os p hp).2)) (x.os p hp).1, (x.os p hp).2⟩⟩
/-- more objects -/
theorem Pr.more (x : Pr w sE L m v1 v2 v3 os s) (k : ∀ b o, s.heap.get? b = some o → h'.get? b = some o) {o : Obj} {a : Addr} (ha : h'.get? a = some o) (hz : s.heap.objs.size ≤ a) : Pr w sE L m v1 v2 v3 ((a, o) :: os) { s with heap := h', toks := tk } :=
  ⟨x.z, x.l150, x.gd0, x.kp.trans (Kp.of k), let ⟨o, es, ep, e, r⟩ := x.ns; ⟨o, es, ep, k _ _ e, r⟩, x.c1.keeps k, x.c2.keeps k, x.c3.keeps k, fun p hp => by
    rcases List.mem_cons.mp hp with rfl | hp
    · exact ⟨ha, Nat.lt_of_lt_of_le x.c3.lt hz⟩
    · exact ⟨k _ _ (x.os p hp).1, (x.os p hp).2⟩⟩
theorem Pr.keep (x : Pr w sE L m v1 v2 v3 os s) (k : ∀ b o, s.heap.get? b = some o → h'.get? b = some o) : Pr w sE L m v1 v2 v3 os { s with heap := h', toks := tk } :=
  ⟨x.z, x.l150, x.gd0, x.kp.trans (Kp.of k), let ⟨o, es, ep, e, r⟩ := x.ns; ⟨o, es, ep, k _ _ e, r⟩, x.c1.keeps k, x.c2.keeps k, x.c3.keeps k, fun p hp => ⟨k _ _ (x.os p hp).1, (x.os p hp).2⟩⟩
theorem Pr.list (x : Pr w sE L m v1 v2 v3 os s) {sc : Addr} {items : Array Value} (h : sE.heap.IsList sc items) : s.heap.IsList sc items := by
  obtain ⟨o, e, c, r⟩ := h
  exact ⟨o, x.kp.cls x.gd0 (by rw [c]; nofun) e, c, r⟩
end

theorem fmod2 (x : Int) : x.fmod 2 = 0 ∨ x.fmod 2 = 1 := by
  rw [Int.fmod_eq_emod_of_nonneg _ (by decide)]
  omega

theorem ints_head : ∀ {vs : List Value} {ns : List Int}, IntsAre vs ns → ns ≠ [] → ∃ n t, vs.toArray[(0 : Int).toNat]? = some (Value.int n t)
  | _, _, .nil, h => absurd rfl h
  | _, _, .cons n t _, _ => ⟨n, t, rfl⟩
theorem ints_all : ∀ {vs : List Value} {ns : List Int}, IntsAre vs ns → ∀ v ∈ vs, ∃ n t, v = Value.int n t
  | _, _, .nil, v, h => by cases h
  | _, _, .cons n t q, v, h => by
    rcases List.mem_cons.mp h with rfl | h
    · exact ⟨n, t, rfl⟩
    · exact ints_all q v h

section
variable {prog : Program} {w : World} {A : Around} {E : Value → Shared → Prop} {sE s : Shared} {L sc : Addr} {m : Str → Option Value} {v1 v2 v3 : Option Value} {os : List (Addr × Obj)}

set_option maxHeartbeats 4000000 in
theorem pr_first {vs : List Value} {ns : List Int} {Q : Flow → Shared → Prop} (x : Pr w sE L m v1 v2 v3 os s) (hsc : sE.heap.IsList sc vs.toArray) (hI : IntsAre vs ns) (hu : A.units + 64 < cLine) (m1 : m "script" = some (.ref sc))
    (h : ∀ (F : Int) (t : Tok) s', Pr w sE L (fun y => if y = Str.ofString "first" then some (.int F t) else m y) v1 v2 v3 os s' → wpAny (model prog w) A (execs (lawBody.drop 1) (lenv L)) Q E s') :
    wpAny (model prog w) A (execs lawBody (lenv L)) Q E s := by
  refine wpAny_execs_cons ?_
  refine wpAny_Assign_Name ?_ ?q1
  case q1 => rfl
  refine wpAny_IfExp ?_
  refine wpAny_isTrue_Compare1 ?_ ?q1
  case q1 => rfl
  refine wpAny_Name (wpAny_loadName_local rfl rfl x.ns m1 ?_)
  refine wpAny_List_spliced ?_
  refine spliced_nil ?_
  refine ⟨Nat.zero_le _, ?_⟩
  have x1 : Pr w sE L m v1 v2 v3 os { s with heap := s.heap.push { cls := .type "list", data := .seq ([] : List Value).toArray } } := x.keep (tk := s.toks) fun b o e => Heap.get?_push_of_some _ e
  refine ne_intsK (x1.list hsc) hI (⟨_, Heap.get?_push_size _ rfl, rfl, _, rfl⟩ : (s.heap.push { cls := .type "list", data := .seq ([] : List Value).toArray }).IsList s.heap.objs.size ([] : List Value).toArray) .nil hu ?_
  refine wpAny_truthy_bool ?_
  by_cases hn : ns = []
  · rw [decide_eq_true hn, if_neg (by decide)]
    refine wpAny_Constant_int ?_
    refine any_state (P := Pr w sE L m v1 v2 v3 os) x1.tok fun s2 x2 => ?_
    refine wpAny_storeName_local rfl x2.ns (fun h₃ hn₃ hs₃ => ?_) ?q1
    case q1 => rfl
    exact h _ _ _ (x2.loc hn₃ hs₃)
  · rw [decide_eq_false hn, if_pos (by decide)]
    refine wpAny_Subscript_Constant_late ?_ ?q1
    case q1 => exact fun _ _ => rfl
    refine wpAny_Name (wpAny_loadName_local rfl rfl x1.ns m1 ?_)
    refine wpAny_Constant_int ?_
    obtain ⟨F, t, hF⟩ := ints_head hI hn
    have hl := x1.list hsc
    refine ⟨"list", _, slot_list_getitem.lookup, hl.typeIs, ?_⟩
    refine wpAny_getItem_list hl (by decide) (by decide) hF ?_
    refine any_state (P := Pr w sE L m v1 v2 v3 os) x1.tok fun s2 x2 => ?_
    refine wpAny_storeName_local rfl x2.ns (fun h₃ hn₃ hs₃ => ?_) ?q1
    case q1 => rfl
    exact h _ _ _ (x2.loc hn₃ hs₃)

set_option maxHeartbeats 4000000 in
theorem pr_sizes {F : Int} {t : Tok} {Q : Flow → Shared → Prop} (x : Pr w sE L m v1 v2 v3 os s) (m1 : m "first" = some (.int F t))
    (h : ∀ (a b c rm mg : Int) m' s', Ch a b c rm → a ≤ 30 ∧ b ≤ 30 ∧ c ≤ 30 → rm ≤ 54 → 0 ≤ mg ∧ mg ≤ 2 → (∃ t1 t2, Pr w sE L m' (some (.int rm t1)) (some (.int mg t2)) v3 os s') →
      (∃ t, m' "small" = some (.int a t)) → (∃ t, m' "middle" = some (.int b t)) → (∃ t, m' "great" = some (.int c t)) → m' "script" = m "script" → wpAny (model prog w) A (execs (lawBody.drop 6) (lenv L)) Q E s') :
    wpAny (model prog w) A (execs (lawBody.drop 1) (lenv L)) Q E s := by
  -- small
  refine wpAny_execs_cons ?_
  refine wpAny_Assign_Name ?_ ?q1
  case q1 => rfl
  refine wpAny_BinOp ?_
  refine wpAny_Constant_int ?_
  refine wpAny_BinOp ?_
  refine wpAny_Name (wpAny_loadName_local rfl rfl (s := { s with toks := s.toks + 1 }) x.ns m1 ?_)
  refine wpAny_Constant_int ?_
  refine PyProof.Rows.mod_int (by decide) ?_
  refine PyProof.Rows.add_int ?_
  have f2 := fmod2 F
  generalize F.fmod 2 = X at f2 ⊢
  obtain ⟨a, ha⟩ : ∃ a : Int, a = 2 + X := ⟨_, rfl⟩
  rw [← ha]
  refine any_state (P := Pr w sE L m v1 v2 v3 os) x.tok fun s1 x1 => ?_
  refine wpAny_storeName_local rfl x1.ns (fun h₃ hn₃ hs₃ => ?_) ?q1
  case q1 => rfl
  refine any_state (P := fun s => ∃ t, Pr w sE L (fun y => if y = Str.ofString "small" then some (.int a t) else m y) v1 v2 v3 os s) ⟨_, x1.loc hn₃ hs₃⟩ fun s2 ⟨ta, x2⟩ => ?_
  clear hs₃ hn₃ h₃ x1 x
  -- middle
  refine wpAny_execs_cons ?_
  refine wpAny_Assign_Name ?_ ?q1
  case q1 => rfl
  refine wpAny_BinOp ?_
  refine wpAny_Name (wpAny_loadName_local rfl rfl x2.ns (if_pos rfl) ?_)
  refine wpAny_BinOp ?_
  refine wpAny_Constant_int ?_
  refine wpAny_BinOp ?_
  refine wpAny_BinOp ?_
  refine wpAny_Name (wpAny_loadName_local rfl rfl (s := { s2 with toks := s2.toks + 1 }) x2.ns ((if_neg (by decide)).trans m1) ?_)
  refine wpAny_Constant_int ?_
  refine floordiv_int (by decide) ?_ (Or.inl (PyProof.noPylong_of_log2 (by decide +kernel)))
  refine wpAny_Constant_int ?_
  refine PyProof.Rows.mod_int (by decide) ?_
  refine PyProof.Rows.add_int ?_
  have g2 := fmod2 (F.fdiv 2)
  generalize (F.fdiv 2).fmod 2 = Y at g2 ⊢
  refine PyProof.Rows.mul_int ?_ (PySem.IntMulOk.of_right (PySem.intBits_le_64 (by omega) (by omega)))
  obtain ⟨b, hb⟩ : ∃ b : Int, b = a * (2 + Y) := ⟨_, rfl⟩
  rw [← hb]
  refine any_state (P := Pr w sE L (fun y => if y = Str.ofString "small" then some (.int a ta) else m y) v1 v2 v3 os) x2.tok fun s3 x3 => ?_
  refine wpAny_storeName_local rfl x3.ns (fun h₃ hn₃ hs₃ => ?_) ?q1
  case q1 => rfl
  refine any_state (P := fun s => ∃ t, Pr w sE L (fun y => if y = Str.ofString "middle" then some (.int b t) else if y = Str.ofString "small" then some (.int a ta) else m y) v1 v2 v3 os s) ⟨_, x3.loc hn₃ hs₃⟩ fun s4 ⟨tb, x4⟩ => ?_
  clear hs₃ hn₃ h₃ x3 x2
  -- great
  refine wpAny_execs_cons ?_
  refine wpAny_Assign_Name ?_ ?q1
  case q1 => rfl
  refine wpAny_BinOp ?_
  refine wpAny_Name (wpAny_loadName_local rfl rfl x4.ns (if_pos rfl) ?_)
  refine wpAny_BinOp ?_
  refine wpAny_Constant_int ?_
  refine wpAny_BinOp ?_
  refine wpAny_BinOp ?_
  refine wpAny_Name (wpAny_loadName_local rfl rfl (s := { s4 with toks := s4.toks + 1 }) x4.ns ((if_neg (by decide)).trans ((if_neg (by decide)).trans m1)) ?_)
  refine wpAny_Constant_int ?_
  refine floordiv_int (by decide) ?_ (Or.inl (PyProof.noPylong_of_log2 (by decide +kernel)))
  refine wpAny_Constant_int ?_
  refine PyProof.Rows.mod_int (by decide) ?_
  refine PyProof.Rows.add_int ?_
  have g3 := fmod3 (F.fdiv 4)
  generalize (F.fdiv 4).fmod 3 = Z at g3 ⊢
  refine PyProof.Rows.mul_int ?_ (PySem.IntMulOk.of_right (PySem.intBits_le_64 (by omega) (by omega)))
  obtain ⟨c, hc⟩ : ∃ c : Int, c = b * (1 + Z) := ⟨_, rfl⟩
  rw [← hc]
  refine any_state (P := Pr w sE L (fun y => if y = Str.ofString "middle" then some (.int b tb) else if y = Str.ofString "small" then some (.int a ta) else m y) v1 v2 v3 os) x4.tok fun s5 x5 => ?_
  refine wpAny_storeName_local rfl x5.ns (fun h₃ hn₃ hs₃ => ?_) ?q1
  case q1 => rfl
  refine any_state (P := fun s => ∃ t, Pr w sE L (fun y => if y = Str.ofString "great" then some (.int c t) else if y = Str.ofString "middle" then some (.int b tb) else if y = Str.ofString "small" then some (.int a ta) else m y) v1 v2 v3 os s) ⟨_, x5.loc hn₃ hs₃⟩ fun s6 ⟨tc, x6⟩ => ?_
  clear hs₃ hn₃ h₃ x5 x4
  -- room
  refine wpAny_execs_cons ?_
  refine wpAny_Assign_Name ?_ ?q1
  case q1 => rfl
  refine wpAny_BinOp ?_
  refine wpAny_Name (wpAny_loadName_local rfl rfl x6.ns (if_pos rfl) ?_)
  refine wpAny_BinOp ?_
  refine wpAny_Constant_int ?_
  refine wpAny_BinOp ?_
  refine wpAny_BinOp ?_
  refine wpAny_Name (wpAny_loadName_local rfl rfl (s := { s6 with toks := s6.toks + 1 }) x6.ns ((if_neg (by decide)).trans ((if_neg (by decide)).trans ((if_neg (by decide)).trans m1))) ?_)
  refine wpAny_Constant_int ?_
  refine floordiv_int (by decide) ?_ (Or.inl (PyProof.noPylong_of_log2 (by decide +kernel)))
  refine wpAny_Constant_int ?_
  refine PyProof.Rows.mod_int (by decide) ?_
  refine PyProof.Rows.add_int ?_
  have g4 := fmod2 (F.fdiv 12)
  generalize (F.fdiv 12).fmod 2 = U at g4 ⊢
  refine PyProof.Rows.mul_int ?_ (PySem.IntMulOk.of_right (PySem.intBits_le_64 (by omega) (by omega)))
  obtain ⟨rm, hrm⟩ : ∃ rm : Int, rm = c * (1 + U) := ⟨_, rfl⟩
  rw [← hrm]
  refine any_state (P := Pr w sE L (fun y => if y = Str.ofString "great" then some (.int c tc) else if y = Str.ofString "middle" then some (.int b tb) else if y = Str.ofString "small" then some (.int a ta) else m y) v1 v2 v3 os) x6.tok fun s7 x7 => ?_
  refine wpAny_storeName_cell rfl rfl rfl x7.c1 fun h₃ hn₃ hs₃ => ?_
  refine any_state (P := fun s => ∃ t, Pr w sE L (fun y => if y = Str.ofString "great" then some (.int c tc) else if y = Str.ofString "middle" then some (.int b tb) else if y = Str.ofString "small" then some (.int a ta) else m y) (some (.int rm t)) v2 v3 os s) ⟨_, x7.room hn₃ hs₃⟩ fun s8 ⟨tr, x8⟩ => ?_
  clear hs₃ hn₃ h₃ x7 x6
  -- margin
  refine wpAny_execs_cons ?_
  refine wpAny_Assign_Name ?_ ?q1
  case q1 => rfl
  refine wpAny_BinOp ?_
  refine wpAny_BinOp ?_
  refine wpAny_Name (wpAny_loadName_local rfl rfl x8.ns ((if_neg (by decide)).trans ((if_neg (by decide)).trans ((if_neg (by decide)).trans m1))) ?_)
  refine wpAny_Constant_int ?_
  refine floordiv_int (by decide) ?_ (Or.inl (PyProof.noPylong_of_log2 (by decide +kernel)))
  refine wpAny_Constant_int ?_
  refine PyProof.Rows.mod_int (by decide) ?_
  have g5 := fmod3 (F.fdiv 24)
  generalize (F.fdiv 24).fmod 3 = mg at g5 ⊢
  refine any_state (P := Pr w sE L (fun y => if y = Str.ofString "great" then some (.int c tc) else if y = Str.ofString "middle" then some (.int b tb) else if y = Str.ofString "small" then some (.int a ta) else m y) (some (.int rm tr)) v2 v3 os) x8.tok fun s9 x9 => ?_
  refine wpAny_storeName_cell rfl rfl rfl x9.c2 fun h₃ hn₃ hs₃ => ?_
  refine any_state (P := fun s => ∃ t, Pr w sE L (fun y => if y = Str.ofString "great" then some (.int c tc) else if y = Str.ofString "middle" then some (.int b tb) else if y = Str.ofString "small" then some (.int a ta) else m y) (some (.int rm tr)) (some (.int mg t)) v3 os s) ⟨_, x9.margin hn₃ hs₃⟩ fun s10 ⟨tm, x10⟩ => ?_
  have ba : a = 2 ∨ a = 3 := by omega
  have bb : b ≤ 9 ∧ 4 ≤ b := by
    rcases ba with h | h <;> rcases g2 with h' | h' <;> rw [h, h'] at hb <;> omega
  have bc : c ≤ 27 ∧ 4 ≤ c := by
    rcases g3 with h' | h' | h' <;> rw [h'] at hc <;> omega
  have br : rm ≤ 54 ∧ 4 ≤ rm := by
    rcases g4 with h' | h' <;> rw [h'] at hrm <;> omega
  refine h a b c rm mg _ s10 ⟨by omega, by omega, by omega, by omega, hb ▸ Int.dvd_mul_right _ _, hc ▸ Int.dvd_mul_right _ _, hrm ▸ Int.dvd_mul_right _ _⟩ ⟨by omega, by omega, by omega⟩ br.1 (by omega) ⟨tr, tm, x10⟩
    ⟨ta, (if_neg (by decide)).trans ((if_neg (by decide)).trans (if_pos rfl))⟩ ⟨tb, (if_neg (by decide)).trans (if_pos rfl)⟩ ⟨tc, if_pos rfl⟩ ((if_neg (by decide)).trans ((if_neg (by decide)).trans (if_neg (by decide))))
end
end Mine
end

section
open PySem PySem.W PyProof.Rows PySem.Calls
set_option maxRecDepth 100000
namespace Mine
section
variable {prog : Program} {w : World} {A : Around} {E : Value → Shared → Prop} {sE s : Shared} {L sc : Addr} {m : Str → Option Value} {v1 v2 v3 : Option Value} {os : List (Addr × Obj)}
theorem g_enum (w : World) : globK (KK w) "enumerate" = none := by kernel_rfl
theorem b_enum : bootBuiltins "enumerate" = some (.type "enumerate") := by kernel_rfl

theorem pr_nil {nm : Str} {p p2 pos : Pos} {rest : List Stmt} {Q : Flow → Shared → Prop} (x : Pr w sE L m v1 v2 v3 os s) (hk : (lenv L).kindOf nm = some .local)
    (h : ∀ a s', Pr w sE L (fun y => if y = nm then some (.ref a) else m y) v1 v2 v3 ((a, listOf ([] : List Value).toArray 0) :: os) s' → (∀ p ∈ os, @LT.lt Nat _ p.1 a) → wpAny (model prog w) A (execs rest (lenv L)) Q E s') :
    wpAny (model prog w) A (execs (.Assign [.Name nm p] (.List [] p2) pos :: rest) (lenv L)) Q E s := by
  refine wpAny_execs_cons ?_
  refine wpAny_Assign_Name ?_ ?q1
  case q1 => rfl
  refine wpAny_List_spliced ?_
  refine spliced_nil ?_
  refine ⟨Nat.zero_le _, ?_⟩
  have hb : ∀ p ∈ os, @LT.lt Nat _ p.1 s.heap.objs.size := fun p hp => Heap.lt_size (x.os p hp).1
  dsimp only
  generalize ha : s.heap.objs.size = a at hb
  have x1 : Pr w sE L m v1 v2 v3 ((a, listOf ([] : List Value).toArray 0) :: os) { s with heap := s.heap.push { cls := .type "list", data := .seq ([] : List Value).toArray }, toks := s.toks } :=
    x.more (fun b o e => Heap.get?_push_of_some _ e) (by rw [← ha]; exact Heap.get?_push_size _ rfl) (Nat.le_of_eq ha)
  refine wpAny_storeName_local hk x1.ns (fun h₃ hn₃ hs₃ => ?_) ?q1
  case q1 => rfl
  exact h a _ (x1.loc hn₃ hs₃) hb

set_option maxHeartbeats 4000000 in
theorem pr_lists {a b c : Int} {Q : Flow → Shared → Prop} (x : Pr w sE L m v1 v2 v3 [] s)
    (m1 : ∃ t, m "small" = some (.int a t)) (m2 : ∃ t, m "middle" = some (.int b t)) (m3 : ∃ t, m "great" = some (.int c t))
    (h : ∀ aO aR aP m' s', Pr w sE L m' v1 v2 v3 [(aP, listOf ([] : List Value).toArray 0), (aR, listOf ([] : List Value).toArray 0), (aO, listOf ([] : List Value).toArray 0)] s' → @LT.lt Nat _ aO aR → @LT.lt Nat _ aR aP → Lo aO aR aP a b c 0 m' → m' "script" = m "script" →
      wpAny (model prog w) A (execs (lawBody.drop 10) (lenv L)) Q E s') :
    wpAny (model prog w) A (execs (lawBody.drop 6) (lenv L)) Q E s := by
  obtain ⟨t1, m1⟩ := m1
  obtain ⟨t2, m2⟩ := m2
  obtain ⟨t3, m3⟩ := m3
  refine pr_nil x (by rfl) fun aO s1 x1 _ => ?_
  refine pr_nil x1 (by rfl) fun aR s2 x2 h2 => ?_
  refine pr_nil x2 (by rfl) fun aP s3 x3 h3 => ?_
  refine wpAny_execs_cons ?_
  refine wpAny_Assign_Name ?_ ?q1
  case q1 => rfl
  refine wpAny_Constant_int ?_
  have x4 := x3.tok (tk := s3.toks + 1)
  refine wpAny_storeName_local rfl x4.ns (fun h₃ hn₃ hs₃ => ?_) ?q1
  case q1 => rfl
  refine h aO aR aP _ _ (x4.loc hn₃ hs₃) (h2 _ (.head _)) (h3 _ (.head _)) ⟨?_, ?_, ?_, ?_, ?_, ?_, ?_⟩ ?_
  · exact ⟨t1, (if_neg (by decide)).trans ((if_neg (by decide)).trans ((if_neg (by decide)).trans ((if_neg (by decide)).trans m1)))⟩
  · exact ⟨t2, (if_neg (by decide)).trans ((if_neg (by decide)).trans ((if_neg (by decide)).trans ((if_neg (by decide)).trans m2)))⟩
  · exact ⟨t3, (if_neg (by decide)).trans ((if_neg (by decide)).trans ((if_neg (by decide)).trans ((if_neg (by decide)).trans m3)))⟩
  · exact ⟨_, if_pos rfl⟩
  · exact (if_neg (by decide)).trans ((if_neg (by decide)).trans ((if_neg (by decide)).trans (if_pos rfl)))
  · exact (if_neg (by decide)).trans ((if_neg (by decide)).trans (if_pos rfl))
  · exact (if_neg (by decide)).trans (if_pos rfl)
  · exact (if_neg (by decide)).trans ((if_neg (by decide)).trans ((if_neg (by decide)).trans (if_neg (by decide))))

set_option maxHeartbeats 8000000 in
theorem pr_loop {a b c rm mg : Int} {t1 t2 : Tok} {aO aR aP : Addr} {vs : List Value} {ns : List Int} {Q : Flow → Shared → Prop} (P : Pg prog) (hh : A.handled = none) (hr : A.depth + 9 < recursionLimit) (hu : A.units + 64 < cLine)
    (x : Pr w sE L m (some (.int rm t1)) (some (.int mg t2)) v3 [(aP, listOf ([] : List Value).toArray 0), (aR, listOf ([] : List Value).toArray 0), (aO, listOf ([] : List Value).toArray 0)] s)
    (hsc : sE.heap.IsList sc vs.toArray) (hI : IntsAre vs ns) (hvl : vs.length ≤ 2 ^ 20) (m0 : m "script" = some (.ref sc)) (lo : Lo aO aR aP a b c 0 m) (hOR : @LT.lt Nat _ aO aR) (hRP : @LT.lt Nat _ aR aP)
    (H : Ch a b c rm) (hc30 : a ≤ 30 ∧ b ≤ 30 ∧ c ≤ 30) (hrm : rm ≤ 54) (hmg : 0 ≤ mg ∧ mg ≤ 2)
    (h : ∀ s', Kp w sE s' → Q (.ret (.bool true)) s') :
    wpAny (model prog w) A (execs (lawBody.drop 10) (lenv L)) Q E s := by
  refine wpAny_execs_cons ?_
  refine wpAny_For ?_ ?q1
  case q1 => exact fun _ => rfl
  refine Call_ ?_ ?q1
  case q1 => rfl
  refine nm_builtin x.gd.toG0 (g_enum w) b_enum ?_
  refine PyProof.Rows.callWith_type1 ?_ ?q1 ?q2
  case q1 => rfl
  case q2 => rfl
  refine spliced_more ?_ ?q3
  case q3 => rfl
  refine wpAny_BinOp ?_
  refine wpAny_List_spliced ?_
  refine spliced_more ?_ ?q3
  case q3 => rfl
  refine wpAny_Constant_int ?_
  refine spliced_more ?_ ?q3
  case q3 => rfl
  refine wpAny_Constant_int ?_
  refine spliced_more ?_ ?q3
  case q3 => rfl
  refine wpAny_Constant_int ?_
  refine spliced_nil ?_
  refine ⟨Nat.le_trans (by show 3 ≤ 2 ^ 20; decide) sz20, ?_⟩
  dsimp only
  generalize hl : s.heap.objs.size = l1
  refine any_state (P := fun s' => ∃ ta tb tc, Pr w sE L m (some (.int rm t1)) (some (.int mg t2)) v3 [(l1, listOf [Value.int 0 ta, .int 2 tb, .int 0 tc].toArray 0), (aP, listOf ([] : List Value).toArray 0), (aR, listOf ([] : List Value).toArray 0), (aO, listOf ([] : List Value).toArray 0)] s')
    ⟨_, _, _, x.more (fun b o e => Heap.get?_push_of_some _ e) (by rw [← hl]; exact Heap.get?_push_size _ rfl) (Nat.le_of_eq hl)⟩ fun s1 ⟨ta, tb, tc, x1⟩ => ?_
  have hPl1 : @LT.lt Nat _ aP l1 := by rw [← hl]; exact Heap.lt_size (x.os _ (.head _)).1
  clear x
  refine wpAny_Subscript_list_slice ?_ ?q1
  case q1 => exact fun _ _ => rfl
  refine wpAny_Name (wpAny_loadName_local rfl rfl x1.ns m0 ?_)
  refine evalPart_none_step ?_
  refine evalPart_some_step ?_
  refine wpAny_Constant_int ?_
  refine ⟨sc, vs.toArray, none, some ((13 : Nat) : Int), rfl, x1.list hsc, by rw [List.size_toArray]; exact Nat.le_trans hvl sz20, .none, .int _ _, ?_⟩
  rw [slicePick_upto']
  dsimp only
  generalize hvt : vs.toArray.toList.take 13 = vt
  have hvt13 : vt.length ≤ 13 := by rw [← hvt, List.length_take]; omega
  have hvti : ∀ v ∈ vt, ∃ n t, v = Value.int n t := fun v hv => ints_all hI v (by rw [← hvt] at hv; exact List.mem_of_mem_take hv)
  generalize hl2 : s1.heap.objs.size + 1 = l2
  refine any_state (P := fun s' => Pr w sE L m (some (.int rm t1)) (some (.int mg t2)) v3 [(l2, listOf vt.toArray 0), (l1, listOf [Value.int 0 ta, .int 2 tb, .int 0 tc].toArray 0), (aP, listOf ([] : List Value).toArray 0), (aR, listOf ([] : List Value).toArray 0), (aO, listOf ([] : List Value).toArray 0)] s')
    (x1.more (fun b o e => Heap.get?_push_of_some _ (Heap.get?_push_of_some _ e)) (by
      have : l2 = (s1.heap.push { cls := .type "slice", data := .fields #[.none, .int ((13 : Nat) : Int) s1.toks, .none] }).objs.size := by rw [Heap.size_push, hl2]
      rw [this]
      exact Heap.get?_push_size _ rfl) (by rw [← hl2]; exact Nat.le_succ _)) fun s2 x2 => ?_
  refine PySem.P.add_list (x2.os _ (.tail _ (.head _))).1 (x2.os _ (.head _)).1 ?_ (by
    simp only [List.size_toArray, List.length_cons, List.length_nil]
    exact Nat.le_trans (by omega) sz20)
  have hl1z : @LT.lt Nat _ l1 s2.heap.objs.size := Heap.lt_size (x2.os _ (.tail _ (.head _))).1
  generalize hl3 : s2.heap.objs.size = l at hl1z
  refine any_state (P := fun s' => Pr w sE L m (some (.int rm t1)) (some (.int mg t2)) v3 [(l, listOf ([Value.int 0 ta, .int 2 tb, .int 0 tc].toArray ++ vt.toArray) 0), (aP, listOf ([] : List Value).toArray 0), (aR, listOf ([] : List Value).toArray 0), (aO, listOf ([] : List Value).toArray 0)] s')
    (by
      have y := x2.more (tk := s2.toks) (h' := s2.heap.push { cls := .type "list", data := .seq ([Value.int 0 ta, .int 2 tb, .int 0 tc].toArray ++ vt.toArray) }) (fun b o e => Heap.get?_push_of_some _ e) (a := l) (o := listOf ([Value.int 0 ta, .int 2 tb, .int 0 tc].toArray ++ vt.toArray) 0) (by rw [← hl3]; exact Heap.get?_push_size _ rfl) (Nat.le_of_eq hl3)
      exact ⟨y.z, y.l150, y.gd0, y.kp, y.ns, y.c1, y.c2, y.c3, fun p hp => y.os p (by
        rcases List.mem_cons.mp hp with rfl | hp
        · exact .head _
        · exact .tail _ (.tail _ (.tail _ hp)))⟩) fun s3 x3 => ?_
  have hPl : @LT.lt Nat _ aP l := Nat.lt_trans hPl1 hl1z
  clear x1 x2 hl3 hl2 hl
  refine spliced_nil ?_
  generalize hit : [Value.int 0 ta, .int 2 tb, .int 0 tc].toArray ++ vt.toArray = items at x3
  have hisz : items.size ≤ 30 := by
    rw [← hit]
    simp only [Array.size_append, List.size_toArray, List.length_cons, List.length_nil]
    omega
  have hii : ∀ (i : Nat) (v : Value), items[i]? = some v → ∃ n t, v = Value.int n t := by
    intro i v hv
    have hm : v ∈ items := Array.mem_of_getElem? hv
    rw [← hit] at hm
    rcases Array.mem_append.mp hm with hm | hm
    · simp only [List.mem_toArray, List.mem_cons, List.not_mem_nil, or_false] at hm
      rcases hm with rfl | rfl | rfl <;> exact ⟨_, _, rfl⟩
    · exact hvti v (List.mem_toArray.mp hm)
  have hlL : s3.heap.IsList l items := ⟨_, (x3.os _ (.head _)).1, rfl, _, rfl⟩
  refine call_enumerate_list hlL fun h₄ he₄ hit₄ hz₄ hk₄ => ?_
  refine wpAny_pyIter_enum (s := { s3 with heap := h₄ }) he₄ ?_
  have hlz : @LT.lt Nat _ l s3.heap.objs.size := Heap.lt_size (x3.os _ (.head _)).1
  generalize hiz : s3.heap.objs.size = it at hlz he₄ hit₄ hz₄
  have x4 : Pr w sE L m (some (.int rm t1)) (some (.int mg t2)) v3 [(l, listOf items 0), (aP, listOf ([] : List Value).toArray 0), (aR, listOf ([] : List Value).toArray 0), (aO, listOf ([] : List Value).toArray 0)] { s3 with heap := h₄, toks := s3.toks } := x3.keep hk₄
  have hl4 : h₄.IsList l items := ⟨_, (x4.os _ (.head _)).1, rfl, _, rfl⟩
  have hLO := (x4.os _ (.tail _ (.tail _ (.tail _ (.head _))))).2
  have q0 : @LE.le Nat _ 150 L := x4.l150
  have q1 : @LT.lt Nat _ (L + 3) aO := hLO
  have q2 : @LT.lt Nat _ aO aR := hOR
  have q3 : @LT.lt Nat _ aR aP := hRP
  have q4 : @LT.lt Nat _ aP l := hPl
  have q5 : @LT.lt Nat _ l it := hlz
  have hap : Ap (it + 1 + 1) L aO aR aP (it + 1) := ⟨q0, q1, q2, q3, by omega, by omega⟩
  have H0 : Hp w (it + 1 + 1) aO aR aP mg [] [] [] [] h₄ :=
    { big := by show @LE.le Nat _ 150 (it + 1 + 1); omega
      iO := by show @LE.le Nat _ 150 aO; omega
      iR := by show @LE.le Nat _ 150 aR; omega
      iP := by show @LE.le Nat _ 150 aP; omega
      bO := by show @LT.lt Nat _ aO (it + 1 + 1); omega
      bR := by show @LT.lt Nat _ aR (it + 1 + 1); omega
      bP := by show @LT.lt Nat _ aP (it + 1 + 1); omega
      bp := fun p hp => by cases hp
      dOR := Nat.ne_of_lt q2
      dOP := Nat.ne_of_lt (Nat.lt_trans q2 q3)
      dRP := Nat.ne_of_lt q3
      dp := fun p hp => by cases hp
      ndp := List.nodup_nil
      ndl := List.nodup_nil
      oO := ⟨0, (x4.os _ (.tail _ (.tail _ (.tail _ (.head _))))).1⟩
      oR := ⟨0, (x4.os _ (.tail _ (.tail _ (.head _)))).1⟩
      oP := ⟨0, (x4.os _ (.tail _ (.head _))).1⟩
      lin := fun p hp => by cases hp
      pla := fun p hp => by cases hp }
  have S0 : St w { s3 with heap := h₄, toks := s3.toks } (it + 1 + 1) L aO aR aP (it + 1) mg rm none m (([] : List (Addr × List Str)).map (·.1)) (([] : List (Addr × List Str)).map (·.1)) [] [] { s3 with heap := h₄, toks := s3.toks } :=
    ⟨hap, x4.gd, x4.ns, ⟨t1, x4.c1⟩, ⟨t2, x4.c2⟩, ⟨v3, x4.c3, fun n e => by cases e⟩, H0, fun _ _ _ _ _ _ _ _ _ _ q => q, ⟨_, he₄⟩, id, rfl⟩
  refine law_loop (sE := sE) (items := items) (l := l) (it := it) P rfl hh hr hu hmg hrm hc30 H hii hisz hPl hlz (Nat.lt_succ_self it) (Nat.le_of_eq x4.z.symm)
    ⟨none, m, [], [], [], S0, lo, ⟨.nil, .nil, rfl, ⟨fun _ h => (by cases h), fun _ h => (by cases h), fun _ h => (by cases h), .nil⟩⟩, Nat.le_refl 0, x4.kp, ⟨_, he₄⟩, hit₄, hl4, Nat.zero_le _⟩
    fun s' nd m' rs lines pls x' lo' pu' hlen' K' => ?_
  refine fin_law x' hh hr hu (by omega) (fun p hp => Int.le_trans (pu'.good.le _ (List.mem_map_of_mem hp)) (by omega)) pu'.same lo'.plain lo'.opened fun s'' x'' => ?_
  refine h s'' ?_
  obtain ⟨b1, b2, b3, b4, b5, b6⟩ := x''.ap
  refine ⟨fun q o q1 q2 eq => ?_, fun _ => x''.gd, fun g => x''.gens (K'.gens g), x''.os.trans K'.os⟩
  have hq : @LT.lt Nat _ q L := Nat.lt_of_lt_of_le (Heap.lt_size eq) (Nat.le_of_eq x4.z.symm)
  have lt : ∀ {x y : Nat}, x < y → (x : Addr) ≠ y := fun h => Nat.ne_of_lt h
  exact x''.kt q o (by show @LT.lt Nat _ q (it + 1 + 1); omega) q1 q2 (lt hq) (lt (by show @LT.lt Nat _ q (L + 3); omega)) (lt (by show @LT.lt Nat _ q aO; omega)) (lt (by show @LT.lt Nat _ q aR; omega)) (lt (by show @LT.lt Nat _ q aP; omega)) (K'.keep q o q1 q2 eq)
end
end Mine
end

section
open PySem PySem.W PyProof.Rows PySem.Calls
set_option maxRecDepth 100000
namespace Mine
section
variable {prog : Program} {w : World} {A : Around} {E : Value → Shared → Prop} {s : Shared} {sc : Addr}

set_option maxHeartbeats 8000000 in
/-- law(script) -/
theorem law_code {R : Result → Shared → Prop} {vs : List Value} {ns : List Int} (P : Pg prog) (hh : A.handled = none) (hr : A.depth + 12 < recursionLimit) (hu : A.units + 100 < cLine)
    (G : Gd w s.heap) (hz : @LE.le Nat _ 150 s.heap.objs.size) (hsc : s.heap.IsList sc vs.toArray) (hI : IntsAre vs ns) (hvl : vs.length ≤ 2 ^ 20)
    (h : ∀ s', Kp w s s' → R (.ok (.ret (.bool true))) s') : codeAny (model prog w) A (.call (.ref 149) ⟨[.ref sc], []⟩) R s := by
  have f := G.kin 149 _ (by rfl)
  refine codeAny_call_cells (binds := [(Str.ofString "script", .ref sc)]) (by omega) f rfl G.lim (codeRec_of G.kin (by kernel_rfl)) rfl rfl rfl ?hk fun s₁ x => ?_
  case hk =>
    intro y hy
    rw [List.mem_singleton.mp hy]
    exact .inl rfl
  clear f
  obtain ⟨h', tk, rfl, hkeep⟩ := x.done
  show wpAny (model prog w) (A.deeper (lenv s.heap.objs.size)) (execs lawBody (lenv s.heap.objs.size)) _ _ _
  have c1 := x.cell (Str.ofString "room") (s.heap.objs.size + 1) rfl
  have c2 := x.cell (Str.ofString "margin") (s.heap.objs.size + 1 + 1) rfl
  have c3 := x.cell (Str.ofString "need") (s.heap.objs.size + 1 + 1 + 1) rfl
  have hn := x.toInCall.ns
  generalize hm : (bindL _ _ _ : Str → Option Value) = m at hn
  have m0 : m "script" = some (.ref sc) := by rw [← hm]; rfl
  have X : Pr w s s.heap.objs.size m _ _ _ [] { s with heap := h', toks := tk } := ⟨rfl, hz, G, Kp.of hkeep, hn, c1, c2, c3, fun p hp => by cases hp⟩
  have hh' : (A.deeper (lenv s.heap.objs.size)).handled = none := hh
  have hr' : (A.deeper (lenv s.heap.objs.size)).depth + 9 < recursionLimit := by show A.depth + 1 + 9 < _; omega
  have hu' : (A.deeper (lenv s.heap.objs.size)).units + 64 < cLine := by show A.units + 3 + 64 < _; omega
  generalize A.deeper (lenv s.heap.objs.size) = A' at hh' hr' hu' ⊢
  refine pr_first X hsc hI hu' m0 fun F t s1 x1 => ?_
  refine pr_sizes x1 (if_pos rfl) fun a b c rm mg m2 s2 H hc30 hrm hmg x2 e1 e2 e3 e4 => ?_
  obtain ⟨t1, t2, x2⟩ := x2
  refine pr_lists x2 e1 e2 e3 fun aO aR aP m3 s3 x3 hOR hRP lo e5 => ?_
  refine pr_loop P hh' hr' hu' x3 hsc hI hvl ?_ lo hOR hRP H hc30 hrm hmg fun s' k => ?_
  · rw [e5, e4]
    exact (if_neg (by decide)).trans m0
  · exact h s' k
end
end Mine
end

section
open PySem PySem.W PyProof.Rows PySem.Calls
set_option maxRecDepth 100000
namespace Mine

theorem tab_new {w : World} {h : Heap} {c P : Addr} (X : (KK w).In h) (e : codeHdIn (KK w) c P = true) (hP : h.get? P = some (tabObj #[])) : Tab h c P := by
  have C := codeHd_of_K X e
  exact ⟨#[], C.code hP (by first | exact .nil | trivial | (intro; simp) | (unfold TriplesOk; simp)), C.tab hP⟩

theorem old_of {w : World} {s s' : Shared} (G : Gd w s.heap) (k : Kp w s s') (h1 : s.heap.get? 90 = some (tabObj #[])) (h2 : s.heap.get? 97 = some (tabObj #[])) : OldK s.heap s'.heap := by
  have G' := k.gd G
  refine ⟨fun b o e => ?_, fun b o e => ?_⟩
  · by_cases b1 : b = 90
    · subst b1
      obtain ⟨ps, _, t⟩ := G.t1
      obtain ⟨ps', _, t'⟩ := G'.t1
      cases h1.symm.trans e
      exact .inr (.inl ⟨t.isCodeTable, rfl, #[], ps', rfl, by rw [Array.empty_append]; exact t'.2⟩)
    · by_cases b2 : b = 97
      · subst b2
        obtain ⟨ps, _, t⟩ := G.t2
        obtain ⟨ps', _, t'⟩ := G'.t2
        cases h2.symm.trans e
        exact .inr (.inl ⟨t.isCodeTable, rfl, #[], ps', rfl, by rw [Array.empty_append]; exact t'.2⟩)
      · exact .inl (k.keep b o b1 b2 e)
  · by_cases b1 : b = 90
    · subst b1
      obtain ⟨ps', _, t'⟩ := G'.t1
      exact ⟨_, t'.2⟩
    · by_cases b2 : b = 97
      · subst b2
        obtain ⟨ps', _, t'⟩ := G'.t2
        exact ⟨_, t'.2⟩
      · exact ⟨o, k.keep b o b1 b2 e⟩
theorem globK_in {w : World} {h : Heap} (X : (KK w).In h) : h.Ns mainGlobals (globK (KK w)) := by
  have e : ∃ o es ep, (KK w).lookup mainGlobals = some o ∧ o.data = .dict es ep ∧ StrKeys es := by
    refine ⟨_, _, _, by rfl, by rfl, ?_⟩
    intro e he
    simp only [List.mem_toArray, List.mem_cons, List.not_mem_nil, or_false] at he
    rcases he with h | h | h | h | h | h | h | h | h | h | h | h | h | h | h | h | h | h <;> (subst h; exact ⟨_, _, rfl⟩)
  obtain ⟨⟨c, d, dt, sl⟩, es, ep, ho, hd, hk⟩ := e
  cases hd
  refine ⟨_, es, ep, X _ _ ho, rfl, hk, fun x => ?_⟩
  unfold globK
  rw [ho]

theorem g_law (w : World) : globK (KK w) "law" = some (.ref 149) := by kernel_rfl
theorem hd94 (w : World) : codeHdIn (KK w) 94 90 = true := by kernel_rfl
theorem hd101 (w : World) : codeHdIn (KK w) 101 97 = true := by kernel_rfl

theorem gd_of {w : World} {h : Heap} {mg mb : Str → Option Value} {bm : Addr} {ob : Obj} (X : (KK w).In h) (T : ∀ P : Addr, P ∈ [90, 97] → h.get? P = some (tabObj #[])) (hb : h.Ns builtinsNs mb) (hbv : ∀ x : Str, x ≠ "__name__" → mb x = bootBuiltins x) (hl : h.NoLimit) (M : BMod h mainGlobals mg bm ob) : Gd w h := by
  have hu := Ns.uniq M.ns (globK_in X)
  have hbm : bm = 4 := by
    have h1 := M.name
    rw [hu, g_bi] at h1
    injection h1 with h1
    injection h1 with h1
    exact h1.symm
  subst hbm
  exact ⟨⟨X, ⟨mb, hb, hbv⟩, ⟨ob, M.obj, M.cls, M.dict, M.data⟩, hl⟩, tab_new X (hd94 w) (T 90 (by simp)), tab_new X (hd101 w) (T 97 (by simp))⟩

theorem ints_len : ∀ {vs : List Value} {ns : List Int}, IntsAre vs ns → vs.length = ns.length
  | _, _, .nil => rfl
  | _, _, .cons _ _ q => by rw [List.length_cons, List.length_cons, ints_len q]

theorem fa_of {w : World} {h : Heap} {mg : Str → Option Value} {fa : Addr} (X : (KK w).In h) (hn : h.Ns mainGlobals mg) (hfa : mg "law" = some (.ref fa)) : fa = 149 := by
  have hu := Ns.uniq hn (globK_in X)
  rw [hu, g_law] at hfa
  injection hfa with h1
  injection h1 with h1
  exact h1.symm

end Mine
end

open PySem PySem.W PyProof.Rows PyProof.V PySem.Spec
set_option maxRecDepth 100000 in
set_option maxHeartbeats 8000000 in
theorem PySem.Challenge.cw_pm0024_01_holds : PySem.Challenge.rw_pm0024_01.Holds := by
  w_on
  o_law
  o_head (kmHook Mine.hd.heap_39 [2, 3, 15, 17, 18, 20, 21, 22, 23, 24, 26, 27, 29, 30, 31, 32, 33, 35, 36, 38, 39, 40, 41, 42, 44, 45, 47, 48, 49, 52, 57, 58, 59, 61, 62, 64, 65, 66, 68, 69, 71, 72, 73, 74, 76, 77, 79, 80, 81, 82, 84, 85, 87, 88, 89, 91, 92, 94, 95, 96, 98, 99, 101, 102, 103, 104, 106, 107, 109, 110, 111, 113, 114, 116, 117, 118, 119, 121, 122, 124, 125, 126, 127, 128, 129, 130, 133, 135, 136, 138, 139, 140, 143, 144, 145, 148, 149] (fun _ => by kernel_rfl) [90, 97])
  (case hw => w_witness2)
  k_fill
  intro w s₀ s₁ mg mb G Y fa o pm cd doc dV kV ho hd hcd hD hmg hg args vals as hpre hlay hrd hwl hlo
  have KX := km_in_of Y
  have KT := km_tabs_of Y
  clear Y hD hcd hd
  refine Ground.open G ?_
  intro T B D TE TW
  obtain ⟨_, _, M⟩ := bmod_of_top T
  have GD : Mine.Gd w s₁.heap := Mine.gd_of KX KT T.b T.builtins T.nolimit M
  have e149 : fa = 149 := Mine.fa_of KX T.g hmg
  subst e149
  clear hmg ho
  have hz : @LE.le Nat _ 150 s₁.heap.objs.size := Heap.lt_size (GD.kin 149 _ (by rfl))
  wrow_args hpre hlay hrd hwl hlo
  refine enter_call ?_
  refine Mine.law_code ⟨by rfl, by rfl⟩ rfl (by decide +kernel) (by decide +kernel) GD hz (by assumption) (by assumption) ?_ fun s' k => ?_
  · rw [Mine.ints_len (by assumption)]
    omega
  · refine ⟨.inl ⟨.bool true, .bool true, [], rfl, fun _ => ?_, .bool true, ?_, fun _ => ⟨List.nodup_nil, fun a ha => by cases ha⟩⟩, Mine.old_of GD k (KT 90 (by simp)) (KT 97 (by simp)), k.os, k.gens (.of_eq hg)⟩
    · rfl
    · exact postW_of (by wrow_shape) (by wtm_val) (by str_meet; first | done | w_fin)
