import PyProof.Rows.All
import Wide.All
import OpenK.AllK
import Wide.FinOn
import PySem.Challenge.RW_om0040_01
set_option Elab.async false
section
open PySem PySem.W PyProof.Rows
set_option Elab.async false
set_option maxRecDepth 100000
set_option maxHeartbeats 8000000
namespace Mine
set_option synthInstance.maxSize 1 in
open_top hd for PySem.Challenge.rw_om0040_01
end Mine
end
section
open PySem PySem.W PyProof.Rows
set_option maxRecDepth 100000
namespace Mine
open PySem PySem.Spec PySem.Calls
section
variable {prog : Program} {w : World} {A₀ A : Around} {s : Shared} {base h₀ : Heap} {outer : List Env} {L : Addr} {m : Str → Option Value} {env : Env} {K : Frag} {p : Program} {loose : List Str} {mean : ExcName → Option Value} {mg mb : Str → Option Value}
  {R : Result → Shared → Prop} {name qual : Str} {params : Arguments} {body : List Stmt} {scope : Scope} {dV kV doc pm cdv ct oc : Value} {an od : Option Addr} {osl : Array (Option Value)} {f : Addr} {args : Args} {binds : List (Str × Value)}
theorem callP (B : Below A₀ base outer h₀) (F : Fr h₀ L s.heap m) (X₀ : K.In h₀) (T : Top p loose mean mg mb h₀) (hA : A.frames = some (env :: outer)) (hf : env.frame = some L) (hke : env.scope.kind = .function)
    (ho : K.lookup f = some ⟨oc, od, .func (fnOf name qual params body scope dV kV doc pm an cdv ct), osl⟩) (hcd : codeIn K cdv qual = true) (hroom : A.depth < recursionLimit)
    (hbind : BindsTo s (fnOf name qual params body scope dV kV doc pm an cdv ct) args binds) (hloc : ∀ y ∈ binds, scope.names.lookup y.1 = some .local)
    (h : ∀ L' h₁, Fr s.heap L' h₁ (fun y => binds.reverse.lookup y) → News s.heap L' h₁ [] → Below A base (env :: outer) s.heap → K.In s.heap → Top p loose mean mg mb s.heap →
      wpAny (model prog w) (A.deeper (envOf qual scope L' f cdv)) (execs body (envOf qual scope L' f cdv))
        (fun fl s' => LeaveK h₀ L m s.heap R (match fl with | .ret v => v | _ => .none) s')
        (fun e s' => wpAny (model prog w) (A.deeper (envOf qual scope L' f cdv)) (leaving (envOf qual scope L' f cdv) e) (fun _ s'' => R (.error e) s'') (fun e' s'' => R (.error e') s'') s')
        { s with heap := h₁, toks := s.toks + binds.length })
    (hco : scope.isCoroutine = false) (hgen : scope.isGenerator = false) (hk : scope.kind = .function)
    (hcell : ∀ x ∈ scope.names, x.2 ≠ .cell) : codeAny (model prog w) A (.call (.ref f) args) R s := by
  obtain ⟨FG, BG, st, lv⟩ := groundX (R := R) B F (News.nil (L := L)) hA hf hke
  refine codeAny_call_def (fd := fnX name qual params body scope [] dV kV doc pm an cdv ct) (body := body) (binds := binds) hroom ((X₀.keeps F.keep) _ _ ho) rfl (T.nolimit.keeps F.keep) (codeRec_of (X₀.keeps F.keep) hcd) rfl hbind hcell hloc (fun h₁ hns hk₁ => ?_) hco hgen hk
  exact wpAny_mono (h s.heap.objs.size h₁ ⟨hns, fun b o e => hk₁ b o e, Nat.le_refl _⟩ News.nil BG (X₀.keeps st) (T.keeps st)) (fun fl s' hl => lv _ _ hl) fun _ _ y => y
theorem frKeep {h h' : Heap} (F : Fr h₀ L h m) (st : h.StaysIn h') : Fr h₀ L h' m :=
  ⟨F.ns.at' fun o e => st _ _ e, fun b o e => st _ _ (F.keep b o e), F.above⟩
theorem newsKeep {h h' : Heap} {news : List (Addr × Obj)} (N : News h₀ L h news) (st : h.StaysIn h') : News h₀ L h' news :=
  fun q hq => ⟨st _ _ (N q hq).1, (N q hq).2⟩
end
/-- a pure def: what it hands back; of the heap that it keeps all. -/
abbrev CpL (lv : Nat) (w : World) (mean : ExcName → Option Value) (mg mb : Str → Option Value) (f : Addr) (pre : Heap → Prop) (vs : List Value) (R : Tok → Value) : Prop :=
  ∀ (dp un : Nat) (gd : Option (List Code)) (cn : Str) (cs : Scope) (a : Addr) (ccd : Value) (cl : List (Str × Addr)) (outer : List Env) (A₀ : Around) (base h₀ : Heap) (L : Addr) (m : Str → Option Value) (s : Shared) (Q E : Value → Shared → Prop),
    Below A₀ base outer h₀ → Fr h₀ L s.heap m → (hd.heap_39 w.params).In h₀ → Top hd.view_39 (looseW hd.view_39 [Str.ofString "_MIN_DIFF_LEN", Str.ofString "safe_repr", Str.ofString "COMPILER_FLAG_NAMES", Str.ofString "_filemode_table"]) mean mg mb h₀ → cs.kind = .function →
    pre s.heap → dp + lv < recursionLimit → un + 10 * lv < cLine → (∀ (t : Tok) (h' : Heap) (tk' : Nat), s.heap.StaysIn h' → Q (R t) { s with heap := h', toks := tk' }) →
      wpAny (model Challenge.rw_om0040_01.row.prog w) (ktrTop dp un gd cn cs L a ccd cl outer) (call (.ref f) vs) Q E s
theorem CpL.use {lv : Nat} {w : World} {mean : ExcName → Option Value} {mg mb : Str → Option Value} {f : Addr} {pre : Heap → Prop} {vs : List Value} {R : Tok → Value} (C : CpL lv w mean mg mb f pre vs R)
    {dp un : Nat} {gd : Option (List Code)} {cn : Str} {cs : Scope} {a : Addr} {ccd : Value} {cl : List (Str × Addr)} {outer : List Env} {A₀ : Around} {base h₀ : Heap} {L : Addr} {m : Str → Option Value} {s : Shared} {Q E : Value → Shared → Prop} {news : List (Addr × Obj)}
    (B : Below A₀ base outer h₀) (F : Fr h₀ L s.heap m) (X : (hd.heap_39 w.params).In h₀) (N : News h₀ L s.heap news) (T : Top hd.view_39 (looseW hd.view_39 [Str.ofString "_MIN_DIFF_LEN", Str.ofString "safe_repr", Str.ofString "COMPILER_FLAG_NAMES", Str.ofString "_filemode_table"]) mean mg mb h₀) (hk : cs.kind = .function)
    (hp : pre s.heap) (hd : dp + lv < recursionLimit) (hu : un + 10 * lv < cLine)
    (h : ∀ (t : Tok) (h' : Heap) (tk' : Nat), Fr h₀ L h' m → News h₀ L h' news → Q (R t) { s with heap := h', toks := tk' }) :
    wpAny (model Challenge.rw_om0040_01.row.prog w) (ktrTop dp un gd cn cs L a ccd cl outer) (call (.ref f) vs) Q E s :=
  C dp un gd cn cs a ccd cl outer A₀ base h₀ L m s Q E B F X T hk hp hd hu fun t h' tk' st => h t h' tk' (frKeep F st) (newsKeep N st)
section
variable {s : Shared} {h' : Heap} {L : Addr} {m : Str → Option Value} {Q : Value → Shared → Prop} {t : Tok} {tk' : Nat}
theorem cp_retI {x y : Int} (hret : ∀ (t : Tok) (h' : Heap) (tk' : Nat), s.heap.StaysIn h' → Q (.int x t) { s with heap := h', toks := tk' }) (F : Fr s.heap L h' m) (e : y = x) : Q (.int y t) { s with heap := h', toks := tk' } := by
  subst e
  exact hret t h' tk' F.keep
theorem cp_retS {x y : Str} (hret : ∀ (t : Tok) (h' : Heap) (tk' : Nat), s.heap.StaysIn h' → Q (.str x t) { s with heap := h', toks := tk' }) (F : Fr s.heap L h' m) (e : y = x) : Q (.str y t) { s with heap := h', toks := tk' } := by
  subst e
  exact hret t h' tk' F.keep
end
theorem joinAs {α : Type} {M : Model} {A : Around} {t : Sem α} {Q : α → Shared → Prop} {E : Value → Shared → Prop} {s : Shared} (Q' : α → Shared → Prop) (h1 : wpAny M A t Q' E s) (h2 : ∀ v s', Q' v s' → Q v s') : wpAny M A t Q E s :=
  wpAny_mono h1 h2 fun _ _ h => h
end Mine
end
section
open PySem PySem.W PyProof.Rows
local macro_rules | `(tactic| k_room) => `(tactic| ktr_room)
local macro_rules | `(tactic| k_ne) => `(tactic| (refine neN ?_; (try dsimp only); first | assumption | (refine Ne.symm ?_; assumption) | omega))
section
open PySem PySem.W PyProof.Rows
set_option Elab.async false
set_option maxRecDepth 100000
set_option maxHeartbeats 2000000
namespace Mine
open PySem PySem.Spec PySem.Calls
section
variable {prog : Program} {w : World} {A : Around} {E : Value → Shared → Prop} {s : Shared}
theorem nextOf_tup_item {it t : Addr} {i : Nat} {items : Array Value} {x : Value} {Q : Value → Shared → Prop} (hit : s.heap.IsTupleIter it t i)
    (ht : s.heap.IsTuple t items) (hx : items[i]? = some x)
    (hQ : ∀ h', h'.IsTupleIter it t (i + 1) → Heap.SameBut it s.heap h' → Q x { s with heap := h' }) :
    wpAny (model prog w) A (Builtin.SmallTypes.nextOf (.ref it)) Q E s := by
  obtain ⟨o, ho, hc, hd⟩ := id hit
  obtain ⟨ol, hol, _, nl, hdl⟩ := ht
  unfold Builtin.SmallTypes.nextOf
  refine wpAny_bind (wpAny_callSpecial?_slot (name := Str.ofString "__next__") hit.typeIs F.slot_tuple_iterator_next
    (wpAny_call_entry F.slot_tuple_iterator_next hit.typeIs F.entry_tuple_iterator_next ?_ (F.args_tuple_iterator_next_1 _)))
  show wpAny _ _ (field (.ref it) 0 >>= _) _ _ s
  refine wpAny_bind (wpAny_field ho hd (x := .ref t) rfl ?_)
  show wpAny _ _ (if (Value.ref t == Value.none) = true then _ else _) _ _ s
  rw [if_neg (show ¬ ((Value.ref t == Value.none) = true) from Bool.false_ne_true)]
  show wpAny _ _ (field (.ref it) 1 >>= _) _ _ s
  refine wpAny_bind (wpAny_field ho hd (x := .int i 0) rfl ?_)
  show wpAny _ _ (seqItems? (.ref t) >>= _) _ _ s
  refine wpAny_bind (wpAny_seqItems hol hdl ?_)
  simp only [Int.toNat_natCast, hx]
  refine wpAny_bind (wpAny_setField ho hd (by simp) (wpAny_pure ⟨x, rfl, wpAny_pure (hQ _ ?_ (Heap.SameBut.update ..))⟩))
  exact ⟨_, Heap.get?_update_self _ ho (Obj.isFreed_of_fields (Obj.data_mapFields hd _)), (Obj.cls_mapFields ..).trans hc, by
    rw [Obj.data_mapFields hd]; simp [rawInt]⟩
theorem nextOf_tup_end {it t : Addr} {i : Nat} {items : Array Value} {Q : Value → Shared → Prop} (hh : A.handled = none)
    (hit : s.heap.IsTupleIter it t i) (ht : s.heap.IsTuple t items) (hx : items[i]? = none)
    (hE : ∀ h' e, Heap.ExtBut it s.heap h' → (∃ o, h'.get? e = some o ∧ o.cls = .type "StopIteration") → E (.ref e) { s with heap := h' }) :
    wpAny (model prog w) A (Builtin.SmallTypes.nextOf (.ref it)) Q E s := by
  obtain ⟨o, ho, hc, hd⟩ := id hit
  obtain ⟨ol, hol, _, nl, hdl⟩ := ht
  unfold Builtin.SmallTypes.nextOf
  refine wpAny_bind (wpAny_callSpecial?_slot (name := Str.ofString "__next__") hit.typeIs F.slot_tuple_iterator_next
    (wpAny_call_entry F.slot_tuple_iterator_next hit.typeIs F.entry_tuple_iterator_next ?_ (F.args_tuple_iterator_next_1 _)))
  show wpAny _ _ (field (.ref it) 0 >>= _) _ _ s
  refine wpAny_bind (wpAny_field ho hd (x := .ref t) rfl ?_)
  show wpAny _ _ (if (Value.ref t == Value.none) = true then _ else _) _ _ s
  rw [if_neg (show ¬ ((Value.ref t == Value.none) = true) from Bool.false_ne_true)]
  show wpAny _ _ (field (.ref it) 1 >>= _) _ _ s
  refine wpAny_bind (wpAny_field ho hd (x := .int i 0) rfl ?_)
  show wpAny _ _ (seqItems? (.ref t) >>= _) _ _ s
  refine wpAny_bind (wpAny_seqItems hol hdl ?_)
  simp only [Int.toNat_natCast, hx]
  refine wpAny_bind (wpAny_rule (wpAny_bind (wpAny_setField ho hd (by simp) ?_)))
  show wpAny _ _ (newExc (.type "StopIteration") [] >>= _) _ _ _
  refine wpAny_bind ?_
  simp only [newExc, newTuple]
  refine wpAny_bind (wpAny_newObj_type ?_ (by size_fits))
  refine wpAny_bind (m := firstArgMember _ _) (wpAny_of_eq (a := Value.none) (by first | rfl | (simp only [firstArgMember]; rfl)) ?_)
  refine wpAny_newObj_type ?_ (by size_fits)
  simp only [raiseNew]
  refine wpAny_bind (wpAny_handled ?_)
  first | rw [show A.in1.handled = none from hh] | rw [hh]
  refine wpAny_bind (wpAny_pure (wpAny_throw ?_))
  exact hE _ _ (((Heap.SameBut.update ..).extBut.push _).push _) ⟨_, Heap.get?_push_size _ rfl, rfl⟩
end
theorem drawsTup {prog : Program} {w : World} {A : Around} (hh : A.handled = none) (it l : Addr) (hne : l ≠ it) (items : Array Value) :
    Draws prog w A it [it, l] items.size (fun i v => items[i]? = some v) (fun i h => h.IsTupleIter it l i ∧ h.IsTuple l items) where
  live := fun _ _ st => let ⟨o, ho, _⟩ := st.1; ⟨o, ho⟩
  frame := fun _ _ _ st hk => ⟨st.1.at fun o e => hk it (by simp) o e, st.2.at fun o e => hk l (by simp) o e⟩
  item := fun i s Q E hi st hQ => by
    refine nextOf_tup_item st.1 st.2 (x := items[i]) (by simp [hi]) fun h' hit' hs' => ?_
    exact hQ _ h' s.toks (by simp [hi]) ⟨hit', st.2.extBut hs'.extBut hne⟩ hs'
  done := fun s Q E st hE => nextOf_tup_end hh st.1 st.2 (by simp) hE
theorem meets_enumT (l : Addr) (items : Array Value) (n : Nat) (dct : Option Addr) (sl : Array (Option Value)) :
    Meets (Builtin.«enumerate.__new__» ⟨[.type "enumerate", .ref l], []⟩) (fun _ R s => s.heap.get? l = some { cls := .type "tuple", dict := dct, data := .seq items n, slots := sl } ∧
      R (.ok (.ret (.ref (s.heap.push { cls := .type "tuple_iterator", data := .fields #[.ref l, .int 0 0] }).objs.size)))
        { s with heap := (s.heap.push { cls := .type "tuple_iterator", data := .fields #[.ref l, .int 0 0] }).push { cls := .type "enumerate", data := .fields #[.none, .bool false, .ref s.heap.objs.size, rawInt 0, .none, .none] } }) :=
  .of_wp fun prog w A R s h => by
    obtain ⟨hp, g, d, tk, os⟩ := s; obtain ⟨hl, h⟩ := h
    have hsub := sub_enumerate
    have hL : Heap.IsTuple (Shared.heap ⟨hp, g, d, tk, os⟩) l items := ⟨_, hl, rfl, n, rfl⟩
    wp_walk using AutoSeq1.wpAny_loadPart' hl
    refine wpAny_stack_any fun st => wpAny_pure ?_
    split
    · rename_i c _ _ _ _ _
      cases (c == Value.type "enumerate")
      · wp_walk using AutoSeq1.wpAny_loadPart' hl, wpAny_pyIter_tuple hL
        exact ⟨_, rfl, h⟩
      · wp_walk using AutoSeq1.wpAny_loadPart' hl, wpAny_pyIter_tuple hL
        exact ⟨_, rfl, h⟩
    · wp_walk using AutoSeq1.wpAny_loadPart' hl, wpAny_pyIter_tuple hL
      exact ⟨_, rfl, h⟩
section
variable {prog : Program} {w : World} {A : Around} {E : Value → Shared → Prop} {s : Shared}
theorem call_enumT {l : Addr} {items : Array Value} {Q : Value → Shared → Prop} (hL : s.heap.IsTuple l items)
    (h : ∀ h', IsEnum h' (s.heap.objs.size + 1) s.heap.objs.size 0 .none → h'.IsTupleIter s.heap.objs.size l 0 → h'.objs.size = s.heap.objs.size + 2 →
      (∀ b o, s.heap.get? b = some o → h'.get? b = some o) → Q (.ref (s.heap.objs.size + 1)) { s with heap := h' }) :
    wpAny (model prog w) A (call (.type "enumerate") [.ref l]) Q E s := by
  obtain ⟨⟨c, dct, dt, sl⟩, hl, hc, n, hd⟩ := hL
  replace hc : c = .type "tuple" := hc
  replace hd : dt = .seq items n := hd
  subst hc hd
  refine callType_new F.called_enumerate (by decide) (F.typeCall_enumerate_1 _) (F.newCall_enumerate_1 _) (fun obj => F.args_object_init_2 obj _) F.entry_enumerate_new
    (meets_enumT l items n dct sl) ⟨hl, ?_⟩
  have hz : (s.heap.push { cls := .type "tuple_iterator", data := .fields #[.ref l, .int 0 0] }).objs.size = s.heap.objs.size + 1 := Heap.size_push ..
  show _ ∧ _
  rw [hz]
  have he : IsEnum ((s.heap.push { cls := .type "tuple_iterator", data := .fields #[.ref l, .int 0 0] }).push
      { cls := .type "enumerate", data := .fields #[.none, .bool false, .ref s.heap.objs.size, rawInt 0, .none, .none] }) (s.heap.objs.size + 1) s.heap.objs.size 0 .none := by
    have := Heap.get?_push_size (s.heap.push { cls := .type "tuple_iterator", data := .fields #[.ref l, .int 0 0] })
      (o := { cls := .type "enumerate", data := .fields #[.none, .bool false, .ref s.heap.objs.size, rawInt 0, .none, .none] }) rfl
    rw [hz] at this; exact this
  refine ⟨⟨_, he, rfl⟩, h _ he ⟨_, Heap.get?_push_of_some _ (Heap.get?_push_size _ rfl), rfl, rfl⟩ (by rw [Heap.size_push, hz]) fun b o x => Heap.get?_push_of_some _ (Heap.get?_push_of_some _ x)⟩
end
end Mine
end
section
open PySem PySem.W PyProof.Rows
set_option Elab.async false
set_option maxRecDepth 100000
set_option maxHeartbeats 2000000
namespace Mine
open PySem PySem.Spec PySem.Calls
section
variable {prog : Program} {w : World} {A : Around} {s : Shared} {env : Env} {h₀ : Heap}
theorem go_tuple_iter {elts : List PySem.Expr} {x1 : Nat} {pos : Pos} {I l T : Addr} {i : Nat} {E : Value → Shared → Prop} {Q : Unit → Shared → Prop} (hit : s.heap.IsTupleIter I l i) (hQ : Q () s) :
    wpAny (model prog w) A (letOwnedTupleGo (.Tuple elts x1 pos) (.ref I) (.ref T)) Q E s := by
  obtain ⟨o, ho, hc, hd⟩ := hit
  unfold letOwnedTupleGo
  refine wpAny_bind (wpAny_load ho ?_)
  rw [hc, hd]
  show wpAny _ A (if (["enumerate", "zip", "dict_itemiterator", "dict_reverseitemiterator", "odict_iterator", "itertools.zip_longest", "itertools.pairwise"].contains "tuple_iterator" &&
      (#[.ref l, .int i 0] : Array Value)[0]? == some (rawInt T)) = true then _ else _) Q E s
  rw [if_neg (by
    intro h
    rw [show (["enumerate", "zip", "dict_itemiterator", "dict_reverseitemiterator", "odict_iterator", "itertools.zip_longest", "itertools.pairwise"].contains "tuple_iterator") = false from by decide, Bool.false_and] at h
    cases h)]
  exact wpAny_pure hQ
/-- a for over a tuple of pairs that the base holds, with an else -/
theorem forPairs {R : Result → Shared → Prop} {xb xc : Str} {pk pv pt : Pos} {x1 : Nat} {body orelse : List Stmt} {I ax : Addr} {items : Array Value} {P : Nat → Value → Value → Prop} {m : Str → Option Value} {news : List (Addr × Obj)}
    (hh : A.handled = none) (hxb : env.kindOf xb = some .local) (hxc : env.kindOf xc = some .local)
    (hp : (env.scope.kind == .class || (env.scope.kind == .module && env.locals != env.globals)) = false)
    (hT : h₀.IsTuple ax items) (hI : h₀.get? I = none) (hLI : env.locals ≠ I) (hit : s.heap.IsTupleIter I ax 0)
    (hP : ∀ i v, items[i]? = some v → ∃ b v0 v1, v = .ref b ∧ h₀.IsTuple b #[v0, v1] ∧ P i v0 v1)
    (F : Fr h₀ env.locals s.heap m) (N : News h₀ env.locals s.heap news) (hnI : ∀ p ∈ news, p.1 ≠ I)
    (J : Nat → (Str → Option Value) → List (Addr × Obj) → Prop) (h0 : J 0 m news)
    (step : ∀ i v0 v1 m₁ news₁ h₁ tk₁ o, i < items.size → P i v0 v1 → J i m₁ news₁ → (∀ p ∈ news₁, p.1 ≠ I) →
      Fr h₀ env.locals h₁ (fun y => if y = xc then some v1 else if y = xb then some v0 else m₁ y) → News h₀ env.locals h₁ ((I, o) :: news₁) →
      wpAny (model prog w) A (execs body env) (fun f s₃ => match f with
        | .next | .cont => ∃ h' tk m' news', s₃ = { s with heap := h', toks := tk } ∧ Fr h₀ env.locals h' m' ∧ News h₀ env.locals h' ((I, o) :: news') ∧ (∀ p ∈ news', p.1 ≠ I) ∧ J (i + 1) m' news'
        | .brk => R (.ok .next) s₃
        | .ret v => R (.ok (.ret v)) s₃) (notedBy (model prog w) A env fun e s' => R (.error e) s') { s with heap := h₁, toks := tk₁ })
    (done : ∀ h tk m' news', Fr h₀ env.locals h m' → News h₀ env.locals h news' → J items.size m' news' →
      wpAny (model prog w) A (execs orelse env) (fun f s₃ => R (.ok f) s₃) (notedBy (model prog w) A env fun e s' => R (.error e) s') { s with heap := h, toks := tk }) :
    codeAny (model prog w) A (.forLoop (.Tuple [.Name xb pk, .Name xc pv] x1 pt) (.ref I) body orelse env) R s := by
  have old : ∀ b o, h₀.get? b = some o → b ≠ I := fun b o e hb => by rw [hb, hI] at e; cases e
  have hax : ax ≠ I := by obtain ⟨o, ho, _⟩ := hT; exact old _ _ ho
  have W := Walks.tuple (prog := prog) (w := w) hh I ax hax items
  refine codeAny_forLoop_any
    (fun k s' => ∃ h' tk m' news' i, s' = { s with heap := h', toks := tk } ∧ h'.IsTupleIter I ax i ∧ Fr h₀ env.locals h' m' ∧ News h₀ env.locals h' news' ∧ (∀ p ∈ news', p.1 ≠ I) ∧ J i m' news' ∧ i ≤ items.size ∧ k = items.size + 1 - i) ?_ (items.size + 1)
    ⟨s.heap, s.toks, m, news, 0, rfl, hit, F, N, hnI, h0, Nat.zero_le _, rfl⟩
  rintro k s' ⟨H, tk, m', news', i, rfl, hit', F', N', hn', hJ, hi, rfl⟩
  have hTH : ∀ {H : Heap} {m' : Str → Option Value}, Fr h₀ env.locals H m' → H.IsTuple ax items := fun F' => hT.at fun o e => F'.keep _ _ e
  have next : ∀ h₁ : Heap, (∀ b o, b ∉ [I] → H.get? b = some o → h₁.get? b = some o) → Fr h₀ env.locals h₁ m' ∧ News h₀ env.locals h₁ news' := fun h₁ hk₁ =>
    ⟨⟨F'.ns.at' fun o e => hk₁ _ o (fun q => hLI (List.mem_singleton.mp q)) e, fun b o e => hk₁ b o (fun q => old b o e (List.mem_singleton.mp q)) (F'.keep b o e), F'.above⟩,
      fun p hp => ⟨hk₁ _ _ (fun q => hn' p hp (List.mem_singleton.mp q)) (N' p hp).1, (N' p hp).2⟩⟩
  by_cases hlt : i < items.size
  · refine W.item i _ _ _ hlt ⟨hit', hTH F'⟩ fun v h₁ tk₁ hPv hst₁ hk₁ => ?_
    obtain ⟨b, v0, v1, rfl, hb, hP2⟩ := hP i v hPv
    obtain ⟨F₁, N₁⟩ := next h₁ hk₁
    obtain ⟨oI, hoI, hcI, hdI⟩ := id hst₁.1
    refine go_tuple_iter hst₁.1 ?_
    have ht₁ : h₁.IsTuple b #[v0, v1] := hb.at fun o e => F₁.keep _ _ e
    refine wpAny_assign_Tuple hh ht₁ rfl rfl fun h₃ hx₃ => ?_
    replace hx₃ : Heap.ExtBut h₁.objs.size h₁ h₃ := hx₃
    have up₃ : ∀ b o, h₁.get? b = some o → h₃.get? b = some o := fun b o x => hx₃ b o (Nat.ne_of_lt (Heap.lt_size x)) x
    have F₃ : Fr h₀ env.locals h₃ m' := frKeep F₁ up₃
    have N₃ : News h₀ env.locals h₃ news' := newsKeep N₁ up₃
    have hoI₃ : h₃.get? I = some oI := up₃ _ _ hoI
    show wpAny _ A (do holding [v1] (assign (.Name xb pk) env v0); do holding [] (assign (.Name xc pv) env v1); pure ()) _ _ _
    refine wpAny_bind (wpAny_holding (wpAny_assign_Name (wpAny_storeName_local hxb F₃.ns (fun h₄ hn₄ hs₄ => ?_) hp)))
    replace hs₄ : Heap.SameBut env.locals h₃ h₄ := hs₄
    have F₄ := F₃.set hn₄ hs₄
    refine wpAny_bind (wpAny_holding (wpAny_assign_Name (wpAny_storeName_local hxc F₄.ns (fun h₅ hn₅ hs₅ => wpAny_pure ?_) hp)))
    replace hs₅ : Heap.SameBut env.locals h₄ h₅ := hs₅
    have F₅ := F₄.set hn₅ hs₅
    have N₅ : News h₀ env.locals h₅ news' := (N₃.set hs₄).set hs₅
    have hoI₅ : h₅.get? I = some oI := (hs₅.2 I (Ne.symm hLI)).trans ((hs₄.2 I (Ne.symm hLI)).trans hoI₃)
    have N₆ : News h₀ env.locals h₅ ((I, oI) :: news') := fun p hp => by
      rcases List.mem_cons.mp hp with rfl | hp
      · exact ⟨hoI₅, Ne.symm hLI, hI⟩
      · exact N₅ p hp
    refine wpAny_mono (step i v0 v1 m' news' h₅ _ oI hlt hP2 hJ hn' F₅ N₆) (fun f s₃ h₆ => ?_) fun _ _ e => e
    have fin : (∃ h' tk m'' news'', s₃ = { s with heap := h', toks := tk } ∧ Fr h₀ env.locals h' m'' ∧ News h₀ env.locals h' ((I, oI) :: news'') ∧ (∀ p ∈ news'', p.1 ≠ I) ∧ J (i + 1) m'' news'') →
        ∃ m, m < items.size + 1 - i ∧ ∃ h' tk m' news' i, s₃ = { s with heap := h', toks := tk } ∧ h'.IsTupleIter I ax i ∧ Fr h₀ env.locals h' m' ∧ News h₀ env.locals h' news' ∧ (∀ p ∈ news', p.1 ≠ I) ∧ J i m' news' ∧ i ≤ items.size ∧ m = items.size + 1 - i := by
      rintro ⟨h₆', tk₆, m₂, news₂, rfl, F₆, N₆', hn₆, hJ₆⟩
      refine ⟨items.size + 1 - (i + 1), by omega, h₆', tk₆, m₂, news₂, i + 1, rfl, ?_, F₆, fun p hp => N₆' p (List.mem_cons_of_mem _ hp), hn₆, hJ₆, hlt, rfl⟩
      exact ⟨oI, (N₆' _ (List.mem_cons_self ..)).1, hcI, hdI⟩
    cases f with
    | ret v => exact h₆
    | brk => exact h₆
    | cont => exact fin h₆
    | next => exact fin h₆
  · have hin : i = items.size := by omega
    subst hin
    refine W.done _ _ _ ⟨hit', hTH F'⟩ fun h₁ tk₁ hk₁ => ?_
    obtain ⟨F₁, N₁⟩ := next h₁ hk₁
    exact done h₁ tk₁ m' news' F₁ N₁ hJ
end
end Mine
end
section
open PySem PySem.W PyProof.Rows
set_option Elab.async false
set_option maxRecDepth 100000
set_option maxHeartbeats 2000000
namespace Mine
open PySem PySem.Spec PySem.Calls
local macro_rules | `(tactic| k_all) => `(tactic| assumption)
structure Stop (P : Prop) : Prop where
  out : P
theorem stopAt {P : Prop} (h : Stop P) : P := h.out
section
variable {prog : Program} {w : World} {A : Around} {s : Shared} {h₀ : Heap} {E : Value → Shared → Prop} {Q : Flow → Shared → Prop} {name : Str} {scope : Scope} {L a : Addr} {cd : Value}
theorem forPairsS {xb xc sn : Str} {pk pv pt ps pos : Pos} {x1 : Nat} {body orelse : List Stmt} {ax : Addr} {items : Array Value} {P : Nat → Value → Value → Prop} {m : Str → Option Value} {news : List (Addr × Obj)}
    (F : Fr h₀ L s.heap m) (N : News h₀ L s.heap news)
    (hsv : m sn = some (.ref ax)) (hT : h₀.IsTuple ax items)
    (hP : ∀ i v, items[i]? = some v → ∃ b v0 v1, v = .ref b ∧ h₀.IsTuple b #[v0, v1] ∧ P i v0 v1)
    (J : Nat → (Str → Option Value) → List (Addr × Obj) → Prop) (h0 : J 0 m news)
    (step : ∀ I, (∀ p ∈ news, p.1 < I) → ∀ i v0 v1 m₁ news₁ h₁ tk₁ o, i < items.size → P i v0 v1 → J i m₁ news₁ → (∀ p ∈ news₁, p.1 ≠ I) →
      Fr h₀ L h₁ (fun y => if y = xc then some v1 else if y = xb then some v0 else m₁ y) → News h₀ L h₁ ((I, o) :: news₁) →
      wpAny (model prog w) A (execs body (envOf name scope L a cd)) (fun f s₃ => match f with
        | .next | .cont => Stop (∃ h' tk m' news', s₃ = { s with heap := h', toks := tk } ∧ Fr h₀ L h' m' ∧ News h₀ L h' ((I, o) :: news') ∧ (∀ p ∈ news', p.1 ≠ I) ∧ J (i + 1) m' news')
        | .brk => Stop (Q .next s₃)
        | .ret v => Stop (Q (.ret v) s₃)) E { s with heap := h₁, toks := tk₁ })
    (done : ∀ h tk m' news', Fr h₀ L h m' → News h₀ L h news' → J items.size m' news' →
      wpAny (model prog w) A (execs orelse (envOf name scope L a cd)) Q E { s with heap := h, toks := tk })
    (hh : A.handled = none := by rfl) (hk : scope.kind = .function := by rfl) (hxb : (envOf name scope L a cd).kindOf xb = some .local := by rfl) (hxc : (envOf name scope L a cd).kindOf xc = some .local := by rfl) (hl : (envOf name scope L a cd).kindOf sn = some .local := by rfl)
    (hd : (sn == ("__debug__" : Str)) = false := by decide)
    (hE : PassesOwn (model prog w) A (envOf name scope L a cd) E := by passes_own) :
    wpAny (model prog w) A (exec (.For (.Tuple [.Name xb pk, .Name xc pv] x1 pt) (.Name sn ps) body orelse pos) (envOf name scope L a cd)) Q E s := by
  refine wpAny_For (ld F hsv ?_ hk hl hd)
  have hTs : s.heap.IsTuple ax items := hT.at fun o e => F.keep _ _ e
  refine wpAny_pyIter_tuple hTs ?_
  have hlt : ∀ p ∈ news, p.1 < s.heap.objs.size := fun p hp => Heap.lt_size (N p hp).1
  have hLI : L ≠ s.heap.objs.size := Nat.ne_of_lt F.ns.lt
  have hnew : h₀.get? s.heap.objs.size = none := next_is_new F
  have hpk : ((envOf name scope L a cd).scope.kind == ScopeKind.class || ((envOf name scope L a cd).scope.kind == ScopeKind.module && (envOf name scope L a cd).locals != (envOf name scope L a cd).globals)) = false := by
    show (scope.kind == .class || (scope.kind == .module && L != mainGlobals)) = false; rw [hk]; rfl
  refine forPairs (env := envOf name scope L a cd) (I := s.heap.objs.size) (ax := ax) (items := items) (P := P) (m := m) (news := news) hh hxb hxc hpk hT hnew hLI ⟨_, Heap.get?_push_size _ rfl, rfl, rfl⟩ hP (F.push _) (fun p hp => ⟨Heap.get?_push_of_some _ (N p hp).1, (N p hp).2⟩)
    (fun p hp => Nat.ne_of_lt (hlt p hp)) J h0 ?_ ?_
  · intro i v0 v1 m₁ news₁ h₁ tk₁ o hi hPi hJ hn F₁ N₁
    refine wpAny_passesOwn hE (wpAny_mono (step _ hlt i v0 v1 m₁ news₁ h₁ tk₁ o hi hPi hJ hn F₁ N₁) (fun f s₃ h => ?_) fun _ _ e => e)
    cases f <;> exact h.out
  · intro h tk m' news' F' N' hJ
    exact wpAny_passesOwn hE (done h tk m' news' F' N' hJ)
end
end Mine
end
section
open PySem PySem.W PyProof.Rows
set_option Elab.async false
set_option maxRecDepth 100000
set_option maxHeartbeats 2000000
namespace Mine
open PySem PySem.Spec PySem.Calls
theorem strsAre_push {vs : List Value} {xs : List Str} {x : Str} {t : Tok} (h : StrsAre vs xs) : StrsAre (vs ++ [.str x t]) (xs ++ [x]) := by
  induction h with
  | nil => exact .cons _ _ .nil
  | cons x t _ ih => exact .cons x t ih
def valKind : ItemKind Value := ⟨fun a v => v = a, some, fun _ _ h => by rw [h]⟩
section
variable {prog : Program} {w : World} {A : Around} {E : Value → Shared → Prop} {s : Shared} {h₀ : Heap} {L : Addr} {m : Str → Option Value} {news : List (Addr × Obj)}
theorem call_enumTS {l : Addr} {vs : List Value} {Q : Value → Shared → Prop} (hh : A.handled = none) (hl : h₀.IsTuple l vs.toArray)
    (F : Fr h₀ L s.heap m) (N : News h₀ L s.heap news)
    (h : ∀ h' e, Fr h₀ L h' m → News h₀ L h' news → PairSrcL prog w A E h₀ L valKind vs (.ref e) { s with heap := h' } m news → Q (.ref e) { s with heap := h' }) :
    wpAny (model prog w) A (call (.type "enumerate") [.ref l]) Q E s := by
  have hls : s.heap.IsTuple l vs.toArray := hl.at fun o e => F.keep l o e
  obtain ⟨ol, hol, _⟩ := id hl
  have hlt : l < h₀.objs.size := Heap.lt_size hol
  have hLs : L < s.heap.objs.size := F.ns.lt
  have hab : h₀.objs.size ≤ L := F.above
  refine call_enumT hls fun h' he hit hsz hk => ?_
  have F' : Fr h₀ L h' m := ⟨F.ns.keeps hk, fun b o e => hk b o (F.keep b o e), F.above⟩
  have N' : News h₀ L h' news := fun p hp => ⟨hk _ _ (N p hp).1, (N p hp).2⟩
  refine h h' _ F' N' fun env hL => ?_
  subst hL
  have hl2 : l < s.heap.objs.size := Nat.lt_trans (Nat.lt_of_lt_of_le hlt hab) hLs
  refine enumSrc (drawsTup (A := A.in1) hh s.heap.objs.size l (Nat.ne_of_lt hl2) vs.toArray) he ⟨hit, hls.at fun o e => hk l o e⟩ (Nat.succ_ne_self _) ?_ (by simp) ?_
    (Heap.get?_none_of_le (Nat.le_trans hab (Nat.le_of_lt (Nat.lt_succ_of_lt hLs)))) (Heap.get?_none_of_le (Nat.le_trans hab (Nat.le_of_lt hLs))) ?_ (by simp) (fun i x hx => ⟨x, by simpa using hx, rfl⟩) F' N'
  · intro hm
    rcases List.mem_cons.mp hm with e | hm
    · exact Nat.succ_ne_self _ e
    · exact Nat.ne_of_gt (Nat.lt_succ_of_lt hl2) (List.mem_singleton.mp hm)
  · intro hm
    rcases List.mem_cons.mp hm with e | hm
    · exact Nat.ne_of_lt (Nat.lt_succ_of_lt hLs) e
    · rcases List.mem_cons.mp hm with e | hm
      · exact Nat.ne_of_lt hLs e
      · exact Nat.ne_of_gt (Nat.lt_of_lt_of_le hlt hab) (List.mem_singleton.mp hm)
  · intro b hb q hq e
    have hq1 : q.1 < s.heap.objs.size := Heap.lt_size (N q hq).1
    rcases List.mem_cons.mp hb with e1 | hb
    · exact Nat.ne_of_gt (Nat.lt_succ_of_lt hq1) (e1.symm.trans e)
    · rcases List.mem_cons.mp hb with e1 | hb
      · exact Nat.ne_of_gt hq1 (e1.symm.trans e)
      · have e2 := List.mem_singleton.mp hb
        have hn := (N q hq).2.2
        rw [← e, e2, hol] at hn
        cases hn
end
/-! what filemode reckons -/
def fmHit (idx mode bit : Int) : Bool := if idx = 0 then decide (Builtin.bitAnd mode 61440 = bit) else decide (Builtin.bitAnd mode bit = bit)
def fmPick (idx mode : Int) : List (Int × Str) → Str
  | [] => if idx = 0 then Str.ofString "?" else Str.ofString "-"
  | (b, c) :: r => if fmHit idx mode b then c else fmPick idx mode r
def fmTab : List (List (Int × Str)) :=
  [[(40960, Str.ofString "l"), (49152, Str.ofString "s"), (32768, Str.ofString "-"), (24576, Str.ofString "b"), (16384, Str.ofString "d"), (8192, Str.ofString "c"), (4096, Str.ofString "p")],
   [(256, Str.ofString "r")], [(128, Str.ofString "w")], [(2112, Str.ofString "s"), (2048, Str.ofString "S"), (64, Str.ofString "x")],
   [(32, Str.ofString "r")], [(16, Str.ofString "w")], [(1032, Str.ofString "s"), (1024, Str.ofString "S"), (8, Str.ofString "x")],
   [(4, Str.ofString "r")], [(2, Str.ofString "w")], [(513, Str.ofString "t"), (512, Str.ofString "T"), (1, Str.ofString "x")]]
/-- a tuple of pairs (an int, a text) that a heap holds -/
structure Ent where
  at_ : Addr
  bit : Int
  bt : Tok
  sign : Str
  st : Tok
def IsRow (h : Heap) (a : Addr) (es : List Ent) : Prop :=
  h.IsTuple a (es.map fun e => Value.ref e.at_).toArray ∧ ∀ e ∈ es, h.IsTuple e.at_ #[Value.int e.bit e.bt, Value.str e.sign e.st]
def Ent.pair (e : Ent) : Int × Str := (e.bit, e.sign)
def fmEnts : List (Addr × List Ent) := [(99, [⟨92, 40960, 350, Str.ofString "l", 378⟩, ⟨93, 49152, 352, Str.ofString "s", 379⟩, ⟨94, 32768, 346, Str.ofString "-", 380⟩, ⟨95, 24576, 344, Str.ofString "b", 381⟩, ⟨96, 16384, 340, Str.ofString "d", 382⟩, ⟨97, 8192, 342, Str.ofString "c", 383⟩, ⟨98, 4096, 348, Str.ofString "p", 384⟩]),
  (101, [⟨100, 256, 360, Str.ofString "r", 385⟩]),
  (103, [⟨102, 128, 362, Str.ofString "w", 386⟩]),
  (107, [⟨104, 2112, 387, Str.ofString "s", 388⟩, ⟨105, 2048, 354, Str.ofString "S", 389⟩, ⟨106, 64, 364, Str.ofString "x", 390⟩]),
  (109, [⟨108, 32, 366, Str.ofString "r", 391⟩]),
  (111, [⟨110, 16, 368, Str.ofString "w", 392⟩]),
  (115, [⟨112, 1032, 393, Str.ofString "s", 394⟩, ⟨113, 1024, 356, Str.ofString "S", 395⟩, ⟨114, 8, 370, Str.ofString "x", 396⟩]),
  (117, [⟨116, 4, 372, Str.ofString "r", 397⟩]),
  (119, [⟨118, 2, 374, Str.ofString "w", 398⟩]),
  (123, [⟨120, 513, 399, Str.ofString "t", 400⟩, ⟨121, 512, 358, Str.ofString "T", 401⟩, ⟨122, 1, 376, Str.ofString "x", 402⟩])]
theorem fmEnts_rows : fmEnts.map (fun r => r.2.map Ent.pair) = fmTab := rfl
theorem fmTable {w : World} {h : Heap} (X : (hd.heap_39 w.params).In h) : h.IsTuple 124 (fmEnts.map fun r => Value.ref r.1).toArray := ⟨_, X _ _ rfl, rfl, _, rfl⟩
theorem fmRows {w : World} {h : Heap} (X : (hd.heap_39 w.params).In h) : ∀ r ∈ fmEnts, IsRow h r.1 r.2 := by
  unfold fmEnts
  refine List.forall_mem_cons.mpr ⟨?_, List.forall_mem_cons.mpr ⟨?_, List.forall_mem_cons.mpr ⟨?_, List.forall_mem_cons.mpr ⟨?_, List.forall_mem_cons.mpr ⟨?_, List.forall_mem_cons.mpr ⟨?_, List.forall_mem_cons.mpr ⟨?_, List.forall_mem_cons.mpr ⟨?_, List.forall_mem_cons.mpr ⟨?_, List.forall_mem_cons.mpr ⟨?_, List.forall_mem_nil _⟩⟩⟩⟩⟩⟩⟩⟩⟩⟩
  all_goals (refine ⟨⟨_, X _ _ rfl, rfl, _, rfl⟩, ?_⟩)
  all_goals (repeat (refine List.forall_mem_cons.mpr ⟨⟨_, X _ _ rfl, rfl, _, rfl⟩, ?_⟩))
  all_goals exact List.forall_mem_nil _
end Mine
end
section
open PySem PySem.W PyProof.Rows
set_option Elab.async false
set_option maxRecDepth 100000
set_option maxHeartbeats 2000000
namespace Mine
open PySem PySem.Spec PySem.Calls
abbrev tupOf (its : Array Value) (n : Nat) : Obj := { cls := .type "tuple", data := .seq its n }
section
variable {prog : Program} {w : World} {A : Around} {s : Shared} {h₀ : Heap} {E : Value → Shared → Prop} {Q : Flow → Shared → Prop} {name : Str} {scope : Scope} {L a : Addr} {cd : Value}
theorem isTuple_news {h : Heap} {news : List (Addr × Obj)} {ax : Addr} {items : Array Value} {nt : Nat} (N : News h₀ L h news) (hm : (ax, tupOf items nt) ∈ news) : h.IsTuple ax items :=
  ⟨_, (N _ hm).1, rfl, nt, rfl⟩
/-- a for over a tuple of the ledger; the target is a tuple of names, the items are tuples -/
theorem forTupL {elts : List PySem.Expr} {pt : Pos} {x1 : Nat} {body : List Stmt} {ax : Addr} {items : Array Value} {nt : Nat} {m : Str → Option Value} {news : List (Addr × Obj)}
    (F : Fr h₀ L s.heap m) (N : News h₀ L s.heap news) (hit : ∀ (i : Nat) (v : Value), items[i]? = some v → ∃ b, v = Value.ref b)
    (J : Nat → (Str → Option Value) → List (Addr × Obj) → Prop) (h0 : J 0 m news) (hJT : ∀ i m' news', J i m' news' → (ax, tupOf items nt) ∈ news')
    (step : ∀ I, (∀ p ∈ news, p.1 < I) → ∀ (i : Nat) (v : Value) m₁ news₁ h₁ tk₁ o, items[i]? = some v → J i m₁ news₁ → (∀ p ∈ news₁, p.1 ≠ I) →
      Fr h₀ L h₁ m₁ → News h₀ L h₁ ((I, o) :: news₁) →
      wpAny (model prog w) A (assign (.Tuple elts x1 pt) (envOf name scope L a cd) v) (fun _ s₂ => wpAny (model prog w) A (execs body (envOf name scope L a cd)) (fun f s₃ => match f with
        | .next | .cont => Stop (∃ h' tk m' news', s₃ = { s with heap := h', toks := tk } ∧ Fr h₀ L h' m' ∧ News h₀ L h' ((I, o) :: news') ∧ (∀ p ∈ news', p.1 ≠ I) ∧ J (i + 1) m' news')
        | .brk => Stop (Q .next s₃)
        | .ret v => Stop (Q (.ret v) s₃)) E s₂) E { s with heap := h₁, toks := tk₁ })
    (done : ∀ h tk m' news', Fr h₀ L h m' → News h₀ L h news' → J items.size m' news' → Q .next { s with heap := h, toks := tk })
    (hh : A.handled = none := by rfl)
    (hE : PassesOwn (model prog w) A (envOf name scope L a cd) E := by passes_own) :
    wpAny (model prog w) A (pyIter (.ref ax)) (fun it s₂ => codeAny (model prog w) A (.forLoop (.Tuple elts x1 pt) it body [] (envOf name scope L a cd)) (fun r s' => match r with | .ok f => Q f s' | .error e => cameBackBy (model prog w) A (envOf name scope L a cd) E e s') s₂) E s := by
  have hTs : s.heap.IsTuple ax items := isTuple_news N (hJT _ _ _ h0)
  refine wpAny_pyIter_tuple hTs ?_
  have hlt : ∀ p ∈ news, p.1 < s.heap.objs.size := fun p hp => Heap.lt_size (N p hp).1
  have hLI : L ≠ s.heap.objs.size := Nat.ne_of_lt F.ns.lt
  have hnew : h₀.get? s.heap.objs.size = none := next_is_new F
  generalize hIe : s.heap.objs.size = I at *
  have hitr : (s.heap.push { cls := .type "tuple_iterator", data := .fields #[.ref ax, .int 0 0] }).IsTupleIter I ax 0 := by
    rw [← hIe]; exact ⟨_, Heap.get?_push_size _ rfl, rfl, rfl⟩
  have hax : ax ≠ I := Nat.ne_of_lt (hlt _ (hJT _ _ _ h0))
  have old : ∀ b o, h₀.get? b = some o → b ≠ I := fun b o e hb => by rw [hb, hnew] at e; cases e
  have W := Walks.tuple (prog := prog) (w := w) hh I ax hax items
  refine codeAny_forLoop_any
    (fun k s' => ∃ h' tk m' news' i, s' = { s with heap := h', toks := tk } ∧ h'.IsTupleIter I ax i ∧ Fr h₀ L h' m' ∧ News h₀ L h' news' ∧ (∀ p ∈ news', p.1 ≠ I) ∧ J i m' news' ∧ i ≤ items.size ∧ k = items.size + 1 - i) ?_ (items.size + 1)
    ⟨_, s.toks, m, news, 0, rfl, hitr, F.push _, (fun p hp => ⟨Heap.get?_push_of_some _ (N p hp).1, (N p hp).2⟩), (fun p hp => Nat.ne_of_lt (hlt p hp)), h0, Nat.zero_le _, rfl⟩
  rintro k s' ⟨H, tk, m', news', i, rfl, hit', F', N', hn', hJ, hi, rfl⟩
  have hTH : H.IsTuple ax items := isTuple_news N' (hJT _ _ _ hJ)
  have next : ∀ h₁ : Heap, (∀ b o, b ∉ [I] → H.get? b = some o → h₁.get? b = some o) → Fr h₀ L h₁ m' ∧ News h₀ L h₁ news' := fun h₁ hk₁ =>
    ⟨⟨F'.ns.at' fun o e => hk₁ _ o (fun q => hLI (List.mem_singleton.mp q)) e, fun b o e => hk₁ b o (fun q => old b o e (List.mem_singleton.mp q)) (F'.keep b o e), F'.above⟩,
      fun p hp => ⟨hk₁ _ _ (fun q => hn' p hp (List.mem_singleton.mp q)) (N' p hp).1, (N' p hp).2⟩⟩
  by_cases hlt' : i < items.size
  · refine W.item i _ _ _ hlt' ⟨hit', hTH⟩ fun v h₁ tk₁ hPv hst₁ hk₁ => ?_
    obtain ⟨b, rfl⟩ := hit i v hPv
    obtain ⟨F₁, N₁⟩ := next h₁ hk₁
    obtain ⟨oI, hoI, hcI, hdI⟩ := id hst₁.1
    refine go_tuple_iter hst₁.1 ?_
    have N₆ : News h₀ L h₁ ((I, oI) :: news') := fun p hp => by
      rcases List.mem_cons.mp hp with rfl | hp
      · exact ⟨hoI, Ne.symm hLI, hnew⟩
      · exact N₁ p hp
    refine wpAny_passesOwn hE (wpAny_mono (step I hlt i _ m' news' h₁ _ oI hPv hJ hn' F₁ N₆) (fun _ s₂ h₂ => wpAny_passesOwn hE (wpAny_mono h₂ (fun f s₃ h₆ => ?_) fun _ _ e => e)) fun _ _ e => e)
    have fin : (∃ h' tk m'' news'', s₃ = { s with heap := h', toks := tk } ∧ Fr h₀ L h' m'' ∧ News h₀ L h' ((I, oI) :: news'') ∧ (∀ p ∈ news'', p.1 ≠ I) ∧ J (i + 1) m'' news'') →
        ∃ m, m < items.size + 1 - i ∧ ∃ h' tk m' news' i, s₃ = { s with heap := h', toks := tk } ∧ h'.IsTupleIter I ax i ∧ Fr h₀ L h' m' ∧ News h₀ L h' news' ∧ (∀ p ∈ news', p.1 ≠ I) ∧ J i m' news' ∧ i ≤ items.size ∧ m = items.size + 1 - i := by
      rintro ⟨h₆', tk₆, m₂, news₂, rfl, F₆, N₆', hn₆, hJ₆⟩
      refine ⟨items.size + 1 - (i + 1), by omega, h₆', tk₆, m₂, news₂, i + 1, rfl, ?_, F₆, fun p hp => N₆' p (List.mem_cons_of_mem _ hp), hn₆, hJ₆, hlt', rfl⟩
      exact ⟨oI, (N₆' _ (List.mem_cons_self ..)).1, hcI, hdI⟩
    cases f with
    | ret v => exact h₆.out
    | brk => exact h₆.out
    | cont => exact fin h₆.out
    | next => exact fin h₆.out
  · have hin : i = items.size := by omega
    subst hin
    refine W.done _ _ _ ⟨hit', hTH⟩ fun h₁ tk₁ hk₁ => wpAny_passesOwn hE (wpAny_execs_nil ?_)
    obtain ⟨F₁, N₁⟩ := next h₁ hk₁
    exact done h₁ tk₁ m' news' F₁ N₁ hJ
theorem assign3 {x0 x1 x2 : Str} {p0 p1 p2 pt : Pos} {kk : Nat} {b : Addr} {v0 v1 v2 : Value} {m : Str → Option Value} {news : List (Addr × Obj)} {Q : Unit → Shared → Prop}
    (F : Fr h₀ L s.heap m) (N : News h₀ L s.heap news) (hT : s.heap.IsTuple b #[v0, v1, v2])
    (h : ∀ h' tk, Fr h₀ L h' (fun y => if y = x2 then some v2 else if y = x1 then some v1 else if y = x0 then some v0 else m y) → News h₀ L h' news → Q () { s with heap := h', toks := tk })
    (hh : A.handled = none := by rfl) (hk : scope.kind = .function := by rfl) (e0 : (envOf name scope L a cd).kindOf x0 = some .local := by rfl) (e1 : (envOf name scope L a cd).kindOf x1 = some .local := by rfl) (e2 : (envOf name scope L a cd).kindOf x2 = some .local := by rfl) :
    wpAny (model prog w) A (assign (.Tuple [.Name x0 p0, .Name x1 p1, .Name x2 p2] kk pt) (envOf name scope L a cd) (.ref b)) Q E s := by
  have hpk : ((envOf name scope L a cd).scope.kind == ScopeKind.class || ((envOf name scope L a cd).scope.kind == ScopeKind.module && (envOf name scope L a cd).locals != (envOf name scope L a cd).globals)) = false := by
    show (scope.kind == .class || (scope.kind == .module && L != mainGlobals)) = false; rw [hk]; rfl
  refine wpAny_assign_Tuple hh hT rfl rfl fun h₃ hx₃ => ?_
  have up₃ : ∀ b o, s.heap.get? b = some o → h₃.get? b = some o := fun b o x => hx₃ b o (Nat.ne_of_lt (Heap.lt_size x)) x
  have F₃ : Fr h₀ L h₃ m := frKeep F up₃
  have N₃ : News h₀ L h₃ news := newsKeep N up₃
  show wpAny _ A (do holding [v1, v2] (assign (.Name x0 p0) (envOf name scope L a cd) v0); do holding [v2] (assign (.Name x1 p1) (envOf name scope L a cd) v1); do holding [] (assign (.Name x2 p2) (envOf name scope L a cd) v2); pure ()) _ _ _
  refine wpAny_bind (wpAny_holding (wpAny_assign_Name (wpAny_storeName_local e0 F₃.ns (fun h₄ hn₄ hs₄ => ?_) hpk)))
  have F₄ := F₃.set hn₄ hs₄
  have N₄ := N₃.set hs₄
  refine wpAny_bind (wpAny_holding (wpAny_assign_Name (wpAny_storeName_local e1 F₄.ns (fun h₅ hn₅ hs₅ => ?_) hpk)))
  have F₅ := F₄.set hn₅ hs₅
  have N₅ := N₄.set hs₅
  refine wpAny_bind (wpAny_holding (wpAny_assign_Name (wpAny_storeName_local e2 F₅.ns (fun h₆ hn₆ hs₆ => wpAny_pure ?_) hpk)))
  exact h h₆ _ (F₅.set hn₆ hs₆) (N₅.set hs₆)
end
end Mine
end
section
open PySem PySem.W PyProof.Rows
set_option Elab.async false
set_option maxRecDepth 100000
set_option maxHeartbeats 2000000
namespace Mine
open PySem PySem.Spec PySem.Calls
section
variable {prog : Program} {w : World} {A : Around} {s : Shared} {h₀ : Heap} {E : Value → Shared → Prop} {Q : Flow → Shared → Prop} {name : Str} {scope : Scope} {L a : Addr} {cd : Value}
/-- a for over a range from nought, with an else -/
theorem forRangeL {x : Str} {px : Pos} {body orelse : List Stmt} {r : Addr} {b₀ : Int} {n : Nat} {t₀ u₀ v₀ : Tok} {m : Str → Option Value} {news : List (Addr × Obj)}
    (hr : IsRange s.heap r 0 b₀ 1 t₀ u₀ v₀) (hsmall : Builtin.Range.small 0 b₀ 1 = true) (hn : Builtin.Range.rangeSize 0 b₀ 1 = (n : Int))
    (F : Fr h₀ L s.heap m) (N : News h₀ L s.heap news)
    (J : Nat → (Str → Option Value) → List (Addr × Obj) → Prop) (h0 : J 0 m news)
    (step : ∀ I, (∀ p ∈ news, p.1 < I) → ∀ (i : Nat) (t : Tok) m₁ news₁ h₁ tk₁ o, i < n → J i m₁ news₁ → (∀ p ∈ news₁, p.1 ≠ I) →
      Fr h₀ L h₁ (fun y => if y = x then some (.int (i : Int) t) else m₁ y) → News h₀ L h₁ ((I, o) :: news₁) →
      wpAny (model prog w) A (execs body (envOf name scope L a cd)) (fun f s₃ => match f with
        | .next | .cont => Stop (∃ h' tk m' news', s₃ = { s with heap := h', toks := tk } ∧ Fr h₀ L h' m' ∧ News h₀ L h' ((I, o) :: news') ∧ (∀ p ∈ news', p.1 ≠ I) ∧ J (i + 1) m' news')
        | .brk => Stop (Q .next s₃)
        | .ret v => Stop (Q (.ret v) s₃)) E { s with heap := h₁, toks := tk₁ })
    (done : ∀ h tk m' news', Fr h₀ L h m' → News h₀ L h news' → J n m' news' → wpAny (model prog w) A (execs orelse (envOf name scope L a cd)) Q E { s with heap := h, toks := tk })
    (hh : A.handled = none := by rfl) (hk : scope.kind = .function := by rfl) (hx : (envOf name scope L a cd).kindOf x = some .local := by rfl)
    (hE : PassesOwn (model prog w) A (envOf name scope L a cd) E := by passes_own) :
    wpAny (model prog w) A (pyIter (.ref r)) (fun it s₂ => codeAny (model prog w) A (.forLoop (.Name x px) it body orelse (envOf name scope L a cd)) (fun r s' => match r with | .ok f => Q f s' | .error e => cameBackBy (model prog w) A (envOf name scope L a cd) E e s') s₂) E s := by
  refine wpAny_pyIter_range hr hsmall ?_
  have hlt : ∀ p ∈ news, p.1 < s.heap.objs.size := fun p hp => Heap.lt_size (N p hp).1
  have hLI : L ≠ s.heap.objs.size := Nat.ne_of_lt F.ns.lt
  have hnew : h₀.get? s.heap.objs.size = none := next_is_new F
  have hpk : ((envOf name scope L a cd).scope.kind == ScopeKind.class || ((envOf name scope L a cd).scope.kind == ScopeKind.module && (envOf name scope L a cd).locals != (envOf name scope L a cd).globals)) = false := by
    show (scope.kind == .class || (scope.kind == .module && L != mainGlobals)) = false; rw [hk]; rfl
  rw [hn]
  generalize hIe : s.heap.objs.size = I at *
  have hitr : IsRangeIter (s.heap.push { cls := .type "range_iterator", data := .fields #[rawInt 0, rawInt (n : Int), rawInt 1] }) I (0 + ((0 : Nat) : Int) * 1) ((n : Int) - ((0 : Nat) : Int)) 1 := by
    rw [← hIe]
    simpa using Heap.get?_push_size (o := ({ cls := .type "range_iterator", data := .fields #[rawInt 0, rawInt (n : Int), rawInt 1] } : Obj)) _ rfl
  have old : ∀ b o, h₀.get? b = some o → b ≠ I := fun b o e hb => by rw [hb, hnew] at e; cases e
  have W := Walks.range (prog := prog) (w := w) hh I 0 1 n
  refine codeAny_forLoop_any
    (fun k s' => ∃ h' tk m' news' i, s' = { s with heap := h', toks := tk } ∧ IsRangeIter h' I (0 + ((i : Nat) : Int) * 1) ((n : Int) - ((i : Nat) : Int)) 1 ∧ Fr h₀ L h' m' ∧ News h₀ L h' news' ∧ (∀ p ∈ news', p.1 ≠ I) ∧ J i m' news' ∧ i ≤ n ∧ k = n + 1 - i) ?_ (n + 1)
    ⟨_, s.toks, m, news, 0, rfl, hitr, F.push _, (fun p hp => ⟨Heap.get?_push_of_some _ (N p hp).1, (N p hp).2⟩), (fun p hp => Nat.ne_of_lt (hlt p hp)), h0, Nat.zero_le _, rfl⟩
  rintro k s' ⟨H, tk, m', news', i, rfl, hit', F', N', hn', hJ, hi, rfl⟩
  have next : ∀ h₁ : Heap, (∀ b o, b ∉ [I] → H.get? b = some o → h₁.get? b = some o) → Fr h₀ L h₁ m' ∧ News h₀ L h₁ news' := fun h₁ hk₁ =>
    ⟨⟨F'.ns.at' fun o e => hk₁ _ o (fun q => hLI (List.mem_singleton.mp q)) e, fun b o e => hk₁ b o (fun q => old b o e (List.mem_singleton.mp q)) (F'.keep b o e), F'.above⟩,
      fun p hp => ⟨hk₁ _ _ (fun q => hn' p hp (List.mem_singleton.mp q)) (N' p hp).1, (N' p hp).2⟩⟩
  by_cases hlt' : i < n
  · refine W.item i _ _ _ hlt' hit' fun v h₁ tk₁ hPv hst₁ hk₁ => ?_
    obtain ⟨t, rfl⟩ := hPv
    have e0 : (0 : Int) + (i : Int) * 1 = (i : Int) := by omega
    rw [e0]
    obtain ⟨F₁, N₁⟩ := next h₁ hk₁
    have hst₂ : h₁.get? I = some (itR (0 + ((i + 1 : Nat) : Int) * 1) ((n : Int) - ((i + 1 : Nat) : Int))) := hst₁
    refine wpAny_pure ?_
    refine wpAny_assign_Name (wpAny_storeName_local hx F₁.ns (fun h₄ hn₄ hs₄ => ?_) hpk)
    replace hs₄ : Heap.SameBut L h₁ h₄ := hs₄
    have F₄ := F₁.set hn₄ hs₄
    have N₄ : News h₀ L h₄ ((I, itR (0 + ((i + 1 : Nat) : Int) * 1) ((n : Int) - ((i + 1 : Nat) : Int))) :: news') := fun p hp => by
      rcases List.mem_cons.mp hp with rfl | hp
      · exact ⟨(hs₄.2 I (Ne.symm hLI)).trans hst₂, Ne.symm hLI, hnew⟩
      · exact (N₁.set hs₄) p hp
    refine wpAny_passesOwn hE (wpAny_mono (step I hlt i t m' news' h₄ _ _ hlt' hJ hn' F₄ N₄) (fun f s₃ h₆ => ?_) fun _ _ e => e)
    have fin : (∃ h' tk m'' news'', s₃ = { s with heap := h', toks := tk } ∧ Fr h₀ L h' m'' ∧ News h₀ L h' ((I, itR (0 + ((i + 1 : Nat) : Int) * 1) ((n : Int) - ((i + 1 : Nat) : Int))) :: news'') ∧ (∀ p ∈ news'', p.1 ≠ I) ∧ J (i + 1) m'' news'') →
        ∃ m, m < n + 1 - i ∧ ∃ h' tk m' news' i, s₃ = { s with heap := h', toks := tk } ∧ IsRangeIter h' I (0 + ((i : Nat) : Int) * 1) ((n : Int) - ((i : Nat) : Int)) 1 ∧ Fr h₀ L h' m' ∧ News h₀ L h' news' ∧ (∀ p ∈ news', p.1 ≠ I) ∧ J i m' news' ∧ i ≤ n ∧ m = n + 1 - i := by
      rintro ⟨h₆', tk₆, m₂, news₂, rfl, F₆, N₆', hn₆, hJ₆⟩
      exact ⟨n + 1 - (i + 1), by omega, h₆', tk₆, m₂, news₂, i + 1, rfl, (N₆' _ (List.mem_cons_self ..)).1, F₆, fun p hp => N₆' p (List.mem_cons_of_mem _ hp), hn₆, hJ₆, hlt', rfl⟩
    cases f with
    | ret v => exact h₆.out
    | brk => exact h₆.out
    | cont => exact fin h₆.out
    | next => exact fin h₆.out
  · have hin : i = n := by omega
    subst hin
    refine W.done _ _ _ hit' fun h₁ tk₁ hk₁ => wpAny_passesOwn hE ?_
    obtain ⟨F₁, N₁⟩ := next h₁ hk₁
    exact done h₁ tk₁ m' news' F₁ N₁ hJ
end
end Mine
end
section
open PySem PySem.W PyProof.Rows
set_option Elab.async false
set_option maxRecDepth 100000
set_option maxHeartbeats 2000000
namespace Mine
open PySem PySem.Spec PySem.Calls
def ltS (x y : Str) : Bool := decide (x.cps.toList < y.cps.toList)
def min3S (a b c : Str) : Str := if ltS c (if ltS b a then b else a) then c else (if ltS b a then b else a)
def max3S (a b c : Str) : Str := if ltS (if ltS a b then b else a) c then c else (if ltS a b then b else a)
section
variable {prog : Program} {w : World} {A : Around} {E : Value → Shared → Prop} {s : Shared} {p : Addr} {a b c : Str} {t u v : Tok} {Q : Value → Shared → Prop}
def at3 (a b c : Str) : Nat → Str
  | 0 => a
  | 1 => b
  | _ => c
theorem at3_is {i : Nat} {x : Value} (h : (#[Value.str a t, .str b u, .str c v] : Array Value)[i]? = some x) : ∃ t', x = .str (at3 a b c i) t' := by
  match i, h with
  | 0, h => exact ⟨_, (Option.some.inj h).symm⟩
  | 1, h => exact ⟨_, (Option.some.inj h).symm⟩
  | 2, h => exact ⟨_, (Option.some.inj h).symm⟩
theorem min3 (hh : A.handled = none) (hT : s.heap.IsTuple p #[.str a t, .str b u, .str c v])
    (h : ∀ tok h' tk, s.heap.StaysIn h' → Q (.str (min3S a b c) tok) { s with heap := h', toks := tk }) : wpAny (model prog w) A (call (.builtin "min") [.ref p]) Q E s := by
  refine call_min_walk (wpAny_pyIter_tuple hT ?_)
  obtain ⟨op, hop, hcp, np, hdp⟩ := id hT
  have hlt : p < s.heap.objs.size := Heap.lt_size hop
  refine ⟨s.heap.objs.size, _, _, _, _, _, fun i j => ltS (at3 a b c i) (at3 a b c j), rfl, Walks.tuple (A := A.in1) hh s.heap.objs.size p (Nat.ne_of_lt hlt) #[.str a t, .str b u, .str c v], ⟨⟨_, Heap.get?_push_size _ rfl, rfl, rfl⟩, hT.push _⟩, ?_, (by show 0 < 3; decide), ?_, ?_⟩
  · intro q hq
    rw [Heap.size_push]
    rcases List.mem_cons.mp hq with rfl | hq
    · exact Nat.lt_succ_self _
    · rw [List.mem_singleton.mp hq]; exact Nat.lt_succ_of_lt hlt
  · intro i j vi vj s' Q' E' hi hj hQ
    obtain ⟨t1, rfl⟩ := at3_is hi
    obtain ⟨t2, rfl⟩ := at3_is hj
    exact lt_str hQ
  · intro x h' tk hx hk
    obtain ⟨t', rfl⟩ := at3_is hx
    have e : at3 a b c (argBest (fun i j => ltS (at3 a b c i) (at3 a b c j)) ((#[Value.str a t, .str b u, .str c v] : Array Value).size - 1)) = min3S a b c := by
      show at3 a b c (argBest (fun i j => ltS (at3 a b c i) (at3 a b c j)) 2) = min3S a b c
      simp only [argBest]
      unfold min3S
      show at3 a b c (if ltS (at3 a b c 2) (at3 a b c (if ltS (at3 a b c 1) (at3 a b c 0) = true then 1 else 0)) = true then 2 else if ltS (at3 a b c 1) (at3 a b c 0) = true then 1 else 0) = _
      cases h1 : ltS b a <;> simp only [at3, h1, if_true, if_false, Bool.false_eq_true]
      · cases h2 : ltS c a <;> simp
      · cases h2 : ltS c b <;> simp
    rw [e]
    refine h t' h' tk fun b' o e' => hk b' o ?_ (Heap.get?_push_of_some _ e')
    intro q
    rw [List.mem_singleton.mp q] at e'
    exact Nat.lt_irrefl _ (Heap.lt_size e')
theorem max3 (hh : A.handled = none) (hT : s.heap.IsTuple p #[.str a t, .str b u, .str c v])
    (h : ∀ tok h' tk, s.heap.StaysIn h' → Q (.str (max3S a b c) tok) { s with heap := h', toks := tk }) : wpAny (model prog w) A (call (.builtin "max") [.ref p]) Q E s := by
  refine call_max_walk (wpAny_pyIter_tuple hT ?_)
  obtain ⟨op, hop, hcp, np, hdp⟩ := id hT
  have hlt : p < s.heap.objs.size := Heap.lt_size hop
  refine ⟨s.heap.objs.size, _, _, _, _, _, fun i j => ltS (at3 a b c j) (at3 a b c i), rfl, Walks.tuple (A := A.in1) hh s.heap.objs.size p (Nat.ne_of_lt hlt) #[.str a t, .str b u, .str c v], ⟨⟨_, Heap.get?_push_size _ rfl, rfl, rfl⟩, hT.push _⟩, ?_, (by show 0 < 3; decide), ?_, ?_⟩
  · intro q hq
    rw [Heap.size_push]
    rcases List.mem_cons.mp hq with rfl | hq
    · exact Nat.lt_succ_self _
    · rw [List.mem_singleton.mp hq]; exact Nat.lt_succ_of_lt hlt
  · intro i j vi vj s' Q' E' hi hj hQ
    obtain ⟨t1, rfl⟩ := at3_is hi
    obtain ⟨t2, rfl⟩ := at3_is hj
    exact P.gt_str hQ
  · intro x h' tk hx hk
    obtain ⟨t', rfl⟩ := at3_is hx
    have e : at3 a b c (argBest (fun i j => ltS (at3 a b c j) (at3 a b c i)) ((#[Value.str a t, .str b u, .str c v] : Array Value).size - 1)) = max3S a b c := by
      show at3 a b c (argBest (fun i j => ltS (at3 a b c j) (at3 a b c i)) 2) = max3S a b c
      simp only [argBest]
      unfold max3S
      show at3 a b c (if ltS (at3 a b c (if ltS (at3 a b c 0) (at3 a b c 1) = true then 1 else 0)) (at3 a b c 2) = true then 2 else if ltS (at3 a b c 0) (at3 a b c 1) = true then 1 else 0) = _
      cases h1 : ltS a b <;> simp only [at3, h1, if_true, if_false, Bool.false_eq_true]
      · cases h2 : ltS a c <;> simp
      · cases h2 : ltS b c <;> simp
    rw [e]
    refine h t' h' tk fun b' o e' => hk b' o ?_ (Heap.get?_push_of_some _ e')
    intro q
    rw [List.mem_singleton.mp q] at e'
    exact Nat.lt_irrefl _ (Heap.lt_size e')
end
end Mine
end
section
open PySem PySem.W PyProof.Rows
set_option Elab.async false
set_option maxRecDepth 100000
set_option maxHeartbeats 2000000
namespace Mine
open PySem PySem.Spec PySem.Calls
section
variable {prog : Program} {w : World} {A : Around} {s : Shared} {h₀ : Heap} {E : Value → Shared → Prop} {Q : Flow → Shared → Prop} {name : Str} {scope : Scope} {L a : Addr} {cd : Value}
/-- a for over a tuple; the target is a name -/
theorem forTupN {x : Str} {px : Pos} {body : List Stmt} {ax : Addr} {items : Array Value} {m : Str → Option Value} {news : List (Addr × Obj)}
    (F : Fr h₀ L s.heap m) (N : News h₀ L s.heap news)
    (J : Nat → (Str → Option Value) → List (Addr × Obj) → Prop) (h0 : J 0 m news) (hJT : ∀ i m' news' h, J i m' news' → Fr h₀ L h m' → News h₀ L h news' → h.IsTuple ax items)
    (step : ∀ I, (∀ p ∈ news, p.1 < I) → ∀ (i : Nat) (v : Value) m₁ news₁ h₁ tk₁ o, items[i]? = some v → J i m₁ news₁ → (∀ p ∈ news₁, p.1 ≠ I) →
      Fr h₀ L h₁ (fun y => if y = x then some v else m₁ y) → News h₀ L h₁ ((I, o) :: news₁) →
      wpAny (model prog w) A (execs body (envOf name scope L a cd)) (fun f s₃ => match f with
        | .next | .cont => Stop (∃ h' tk m' news', s₃ = { s with heap := h', toks := tk } ∧ Fr h₀ L h' m' ∧ News h₀ L h' ((I, o) :: news') ∧ (∀ p ∈ news', p.1 ≠ I) ∧ J (i + 1) m' news')
        | .brk => Stop (Q .next s₃)
        | .ret v => Stop (Q (.ret v) s₃)) E { s with heap := h₁, toks := tk₁ })
    (done : ∀ h tk m' news', Fr h₀ L h m' → News h₀ L h news' → J items.size m' news' → Q .next { s with heap := h, toks := tk })
    (hh : A.handled = none := by rfl) (hk : scope.kind = .function := by rfl) (hx : (envOf name scope L a cd).kindOf x = some .local := by rfl)
    (hE : PassesOwn (model prog w) A (envOf name scope L a cd) E := by passes_own) :
    wpAny (model prog w) A (pyIter (.ref ax)) (fun it s₂ => codeAny (model prog w) A (.forLoop (.Name x px) it body [] (envOf name scope L a cd)) (fun r s' => match r with | .ok f => Q f s' | .error e => cameBackBy (model prog w) A (envOf name scope L a cd) E e s') s₂) E s := by
  have hTs : s.heap.IsTuple ax items := hJT _ _ _ _ h0 F N
  refine wpAny_pyIter_tuple hTs ?_
  have hlt : ∀ p ∈ news, p.1 < s.heap.objs.size := fun p hp => Heap.lt_size (N p hp).1
  have hLI : L ≠ s.heap.objs.size := Nat.ne_of_lt F.ns.lt
  have hnew : h₀.get? s.heap.objs.size = none := next_is_new F
  generalize hIe : s.heap.objs.size = I at *
  have hitr : (s.heap.push { cls := .type "tuple_iterator", data := .fields #[.ref ax, .int 0 0] }).IsTupleIter I ax 0 := by
    rw [← hIe]; exact ⟨_, Heap.get?_push_size _ rfl, rfl, rfl⟩
  have hax : ax ≠ I := by
    obtain ⟨o, ho, _⟩ := id hTs
    rw [← hIe]
    exact Nat.ne_of_lt (Heap.lt_size ho)
  have hpk : ((envOf name scope L a cd).scope.kind == ScopeKind.class || ((envOf name scope L a cd).scope.kind == ScopeKind.module && (envOf name scope L a cd).locals != (envOf name scope L a cd).globals)) = false := by
    show (scope.kind == .class || (scope.kind == .module && L != mainGlobals)) = false; rw [hk]; rfl
  have old : ∀ b o, h₀.get? b = some o → b ≠ I := fun b o e hb => by rw [hb, hnew] at e; cases e
  have W := Walks.tuple (prog := prog) (w := w) hh I ax hax items
  refine codeAny_forLoop_any
    (fun k s' => ∃ h' tk m' news' i, s' = { s with heap := h', toks := tk } ∧ h'.IsTupleIter I ax i ∧ Fr h₀ L h' m' ∧ News h₀ L h' news' ∧ (∀ p ∈ news', p.1 ≠ I) ∧ J i m' news' ∧ i ≤ items.size ∧ k = items.size + 1 - i) ?_ (items.size + 1)
    ⟨_, s.toks, m, news, 0, rfl, hitr, F.push _, (fun p hp => ⟨Heap.get?_push_of_some _ (N p hp).1, (N p hp).2⟩), (fun p hp => Nat.ne_of_lt (hlt p hp)), h0, Nat.zero_le _, rfl⟩
  rintro k s' ⟨H, tk, m', news', i, rfl, hit', F', N', hn', hJ, hi, rfl⟩
  have hTH : H.IsTuple ax items := hJT _ _ _ _ hJ F' N'
  have next : ∀ h₁ : Heap, (∀ b o, b ∉ [I] → H.get? b = some o → h₁.get? b = some o) → Fr h₀ L h₁ m' ∧ News h₀ L h₁ news' := fun h₁ hk₁ =>
    ⟨⟨F'.ns.at' fun o e => hk₁ _ o (fun q => hLI (List.mem_singleton.mp q)) e, fun b o e => hk₁ b o (fun q => old b o e (List.mem_singleton.mp q)) (F'.keep b o e), F'.above⟩,
      fun p hp => ⟨hk₁ _ _ (fun q => hn' p hp (List.mem_singleton.mp q)) (N' p hp).1, (N' p hp).2⟩⟩
  by_cases hlt' : i < items.size
  · refine W.item i _ _ _ hlt' ⟨hit', hTH⟩ fun v h₁ tk₁ hPv hst₁ hk₁ => ?_
    obtain ⟨F₁, N₁⟩ := next h₁ hk₁
    obtain ⟨oI, hoI, hcI, hdI⟩ := id hst₁.1
    refine wpAny_pure ?_
    refine wpAny_assign_Name (wpAny_storeName_local hx F₁.ns (fun h₄ hn₄ hs₄ => ?_) hpk)
    replace hs₄ : Heap.SameBut L h₁ h₄ := hs₄
    have F₄ := F₁.set hn₄ hs₄
    have N₆ : News h₀ L h₄ ((I, oI) :: news') := fun p hp => by
      rcases List.mem_cons.mp hp with rfl | hp
      · exact ⟨(hs₄.2 I (Ne.symm hLI)).trans hoI, Ne.symm hLI, hnew⟩
      · exact (N₁.set hs₄) p hp
    refine wpAny_passesOwn hE (wpAny_mono (step I hlt i _ m' news' h₄ _ oI hPv hJ hn' F₄ N₆) (fun f s₃ h₆ => ?_) fun _ _ e => e)
    have fin : (∃ h' tk m'' news'', s₃ = { s with heap := h', toks := tk } ∧ Fr h₀ L h' m'' ∧ News h₀ L h' ((I, oI) :: news'') ∧ (∀ p ∈ news'', p.1 ≠ I) ∧ J (i + 1) m'' news'') →
        ∃ m, m < items.size + 1 - i ∧ ∃ h' tk m' news' i, s₃ = { s with heap := h', toks := tk } ∧ h'.IsTupleIter I ax i ∧ Fr h₀ L h' m' ∧ News h₀ L h' news' ∧ (∀ p ∈ news', p.1 ≠ I) ∧ J i m' news' ∧ i ≤ items.size ∧ m = items.size + 1 - i := by
      rintro ⟨h₆', tk₆, m₂, news₂, rfl, F₆, N₆', hn₆, hJ₆⟩
      refine ⟨items.size + 1 - (i + 1), by omega, h₆', tk₆, m₂, news₂, i + 1, rfl, ?_, F₆, fun p hp => N₆' p (List.mem_cons_of_mem _ hp), hn₆, hJ₆, hlt', rfl⟩
      exact ⟨oI, (N₆' _ (List.mem_cons_self ..)).1, hcI, hdI⟩
    cases f with
    | ret v => exact h₆.out
    | brk => exact h₆.out
    | cont => exact fin h₆.out
    | next => exact fin h₆.out
  · have hin : i = items.size := by omega
    subst hin
    refine W.done _ _ _ ⟨hit', hTH⟩ fun h₁ tk₁ hk₁ => wpAny_passesOwn hE (wpAny_execs_nil ?_)
    obtain ⟨F₁, N₁⟩ := next h₁ hk₁
    exact done h₁ tk₁ m' news' F₁ N₁ hJ
end
end Mine
end
section
open PySem PySem.W PyProof.Rows
set_option Elab.async false
set_option maxRecDepth 100000
set_option maxHeartbeats 2000000
namespace Mine
open PySem PySem.Spec PySem.Calls
section
variable {prog : Program} {w : World} {A : Around} {s : Shared} {h₀ : Heap} {E : Value → Shared → Prop} {Q : Value → Shared → Prop} {L : Addr} {env : Env}
theorem paired_len {F : Value → Value → Prop} {l₁ l₂ : List Value} (h : Paired F l₁ l₂) : l₁.length = l₂.length := by
  induction h with
  | nil => rfl
  | cons _ _ ih => simp [ih]
theorem paired_at {F : Value → Value → Prop} {l₁ l₂ : List Value} (h : Paired F l₁ l₂) : ∀ (i : Nat) (v y : Value), l₁[i]? = some v → l₂[i]? = some y → F v y := by
  induction h with
  | nil => intro i v y h1 _; simp at h1
  | cons hf _ ih =>
    intro i v y h1 h2
    cases i with
    | zero => simp at h1 h2; rw [← h1, ← h2]; exact hf
    | succ i => exact ih i v y (by simpa using h1) (by simpa using h2)
end
end Mine
end
section
open PySem PySem.W PyProof.Rows
set_option Elab.async false
set_option maxRecDepth 100000
set_option maxHeartbeats 2000000
namespace Mine
open PySem PySem.Spec PySem.Calls
open PyProof.Rows.LCg (NsObj ns_obj)
section
variable {prog : Program} {w : World} {A : Around} {h₀ : Heap} {E : Value → Shared → Prop} {L : Addr} {env : Env}
  {elt : PySem.Expr} {ifs : List PySem.Expr} {x : Str} {sc : Scope} {cl : List (Str × Addr)} {I : Addr} {fp : List Addr} {n : Nat} {P : Nat → Value → Prop} {St : Nat → Heap → Prop} {m : Str → Option Value} {news : List (Addr × Obj)}
  {Rel : Value → Value → Prop} {p : Value → Bool} {s₂ : Shared}
/-- the tests of a comprehension -/
abbrev testsOf (ifs : List PySem.Expr) (cenv : Env) : Sem Bool :=
  forIn ifs true fun c r => if r = true then do let ok ← isTrue c cenv (eval c cenv); pure (ForInStep.yield ok) else pure (ForInStep.yield r)
theorem quietOf (F : Fr h₀ L s₂.heap m) (N : News h₀ L s₂.heap news) (hIL : L ≠ I) (hI₀ : h₀.get? I = none) (hIn : ∀ q ∈ news, q.1 ≠ I)
    (htest : ∀ (C : Addr) (oC : Obj) (s₃ : Shared) m₃ (i : Nat) (v : Value) E', P i v → NsObj oC m₃ → m₃ x = some v → Fr h₀ L s₃.heap m → News h₀ L s₃.heap ((C, oC) :: news) → (∀ q ∈ news, q.1 ≠ C) →
      wpAny (model prog w) A (testsOf ifs (compEnvC sc cl C env)) (fun ok s₄ => ok = p v ∧ Keeps s₃ s₄) E' s₃)
    (helt : ∀ (C : Addr) (oC : Obj) (s₃ : Shared) m₃ (i : Nat) (v : Value) E', P i v → p v = true → NsObj oC m₃ → m₃ x = some v → Fr h₀ L s₃.heap m → News h₀ L s₃.heap ((C, oC) :: news) → (∀ q ∈ news, q.1 ≠ C) →
      wpAny (model prog w) A (eval elt (compEnvC sc cl C env)) (fun y s₄ => Stop (Rel v y ∧ Keeps s₃ s₄)) E' s₃) :
    QuietOnC prog w A env sc cl x ifs elt [I] P p Rel s₂ := by
  have up : ∀ {h' : Heap}, (∀ b o, b ∉ [I] → s₂.heap.get? b = some o → h'.get? b = some o) → Fr h₀ L h' m ∧ News h₀ L h' news := fun hk =>
    ⟨⟨F.ns.at' fun o e => hk _ o (fun q => hIL (List.mem_singleton.mp q)) e, fun b o e => hk b o (fun q => by rw [List.mem_singleton.mp q, hI₀] at e; cases e) (F.keep b o e), F.above⟩,
      fun q hq => ⟨hk _ _ (fun r => hIn q hq (List.mem_singleton.mp r)) (N q hq).1, (N q hq).2⟩⟩
  have low : ∀ {C : Addr}, s₂.heap.objs.size ≤ C → C ≠ L ∧ h₀.get? C = none ∧ ∀ q ∈ news, q.1 ≠ C := fun hC =>
    ⟨fun e => by have := F.ns.lt; rw [← e] at this; exact absurd this (Nat.not_lt.mpr hC), by
      cases e : h₀.get? _ with
      | none => rfl
      | some o => exact absurd (Heap.lt_size (F.keep _ _ e)) (Nat.not_lt.mpr hC), fun q hq e => by have := Heap.lt_size (N q hq).1; rw [e] at this; exact absurd this (Nat.not_lt.mpr hC)⟩
  refine ⟨?_, ?_⟩
  · intro C i v s₃ m₃ E' hC hP hn hm hk _
    obtain ⟨F₃, N₃⟩ := up hk
    obtain ⟨oC, heC, hoC⟩ := ns_obj hn
    obtain ⟨h1, h2, h3⟩ := low hC
    exact htest C oC s₃ m₃ i v E' hP hoC hm F₃ (fun q hq => by
      rcases List.mem_cons.mp hq with rfl | hq
      · exact ⟨heC, h1, h2⟩
      · exact N₃ q hq) h3
  · intro C i v s₃ m₃ E' hC hP hp hn hm hk _
    obtain ⟨F₃, N₃⟩ := up hk
    obtain ⟨oC, heC, hoC⟩ := ns_obj hn
    obtain ⟨h1, h2, h3⟩ := low hC
    exact wpAny_mono (helt C oC s₃ m₃ i v E' hP hp hoC hm F₃ (fun q hq => by
      rcases List.mem_cons.mp hq with rfl | hq
      · exact ⟨heC, h1, h2⟩
      · exact N₃ q hq) h3) (fun _ _ h => h.out) fun _ _ h => h
theorem testNil {s₃ : Shared} {cenv : Env} {E' : Value → Shared → Prop} : wpAny (model prog w) A (testsOf [] cenv) (fun ok s₄ => ok = true ∧ Keeps s₃ s₄) E' s₃ :=
  wpAny_pure ⟨rfl, _, _, rfl, fun _ _ e => e⟩
/-- what stands behind the source of a comprehension -/
theorem compBody {R : Addr → Heap → Nat → Prop} (W : Walks prog w A I fp [I] n P St) (hsz : n ≤ sizeLine) (hst : St 0 s₂.heap) (hfp : ∀ b ∈ fp, b < s₂.heap.objs.size)
    (F : Fr h₀ L s₂.heap m) (N : News h₀ L s₂.heap news) (hIL : L ≠ I) (hI₀ : h₀.get? I = none) (hIn : ∀ q ∈ news, q.1 ≠ I)
    (htest : ∀ (C : Addr) (oC : Obj) (s₃ : Shared) m₃ (i : Nat) (v : Value) E', P i v → NsObj oC m₃ → m₃ x = some v → Fr h₀ L s₃.heap m → News h₀ L s₃.heap ((C, oC) :: news) → (∀ q ∈ news, q.1 ≠ C) →
      wpAny (model prog w) A (testsOf ifs (compEnvC sc cl C env)) (fun ok s₄ => ok = p v ∧ Keeps s₃ s₄) E' s₃)
    (helt : ∀ (C : Addr) (oC : Obj) (s₃ : Shared) m₃ (i : Nat) (v : Value) E', P i v → p v = true → NsObj oC m₃ → m₃ x = some v → Fr h₀ L s₃.heap m → News h₀ L s₃.heap ((C, oC) :: news) → (∀ q ∈ news, q.1 ≠ C) →
      wpAny (model prog w) A (eval elt (compEnvC sc cl C env)) (fun y s₄ => Stop (Rel v y ∧ Keeps s₃ s₄)) E' s₃)
    (hQ : ∀ (D : Addr) h' tk ys nD (vs : List Value), (∀ q ∈ news, q.1 ≠ D) → vs.length = n → (∀ j v, vs[j]? = some v → P j v) → Paired Rel (vs.filter p) ys.toList → Fr h₀ L h' m → News h₀ L h' ((D, listOf ys nD) :: news) →
      (∀ b o, b ∉ [I] → s₂.heap.get? b = some o → h'.get? b = some o) → R D h' tk) :
    ∃ I' fp wr n P St, (Value.ref I) = .ref I' ∧ Walks prog w A I' fp wr n P St ∧ n ≤ sizeLine ∧ St 0 s₂.heap ∧ (∀ b ∈ fp, b < s₂.heap.objs.size) ∧
      QuietOnC prog w A env sc cl x ifs elt wr P p Rel s₂ ∧
      (∀ D h' tk ys (vs : List Value), s₂.heap.get? D = none → h'.IsList D ys → h'.PlainList D ys → vs.length = n → (∀ j v, vs[j]? = some v → P j v) → Paired Rel (vs.filter p) ys.toList →
        (∀ b o, b ∉ wr → s₂.heap.get? b = some o → h'.get? b = some o) → R D h' tk) := by
  refine ⟨I, fp, [I], n, P, St, rfl, W, hsz, hst, hfp, quietOf F N hIL hI₀ hIn htest helt, ?_⟩
  intro D h' tk ys vs hD hl hpl hlen hP hF hk
  obtain ⟨nD, hpl⟩ := hpl
  have F' : Fr h₀ L h' m := ⟨F.ns.at' fun o e => hk _ o (fun q => hIL (List.mem_singleton.mp q)) e, fun b o e => hk b o (fun q => by rw [List.mem_singleton.mp q, hI₀] at e; cases e) (F.keep b o e), F.above⟩
  refine hQ D h' tk ys nD vs (fun q hq e => by have := (N q hq).1; rw [e, hD] at this; cases this) hlen hP hF F' ?_ hk
  intro q hq
  rcases List.mem_cons.mp hq with rfl | hq
  · refine ⟨hpl, ?_, ?_⟩
    · intro e
      obtain ⟨oL, _, _, hL, _⟩ := F.ns
      have e' : D = L := e
      rw [e', hL] at hD
      cases hD
    · cases e : h₀.get? D with
      | none => rfl
      | some o => rw [F.keep _ _ e] at hD; cases hD
  · exact ⟨hk _ _ (fun r => hIn q hq (List.mem_singleton.mp r)) (N q hq).1, (N q hq).2⟩
/-- the same where the list is bound to a name -/
theorem compBodyA {y : Str} {R : Addr → Heap → Nat → Prop} (hLe : env.locals = L) (W : Walks prog w A I fp [I] n P St) (hsz : n ≤ sizeLine) (hst : St 0 s₂.heap) (hfp : ∀ b ∈ fp, b < s₂.heap.objs.size)
    (F : Fr h₀ L s₂.heap m) (N : News h₀ L s₂.heap news) (hIL : L ≠ I) (hI₀ : h₀.get? I = none) (hIn : ∀ q ∈ news, q.1 ≠ I)
    (htest : ∀ (C : Addr) (oC : Obj) (s₃ : Shared) m₃ (i : Nat) (v : Value) E', P i v → NsObj oC m₃ → m₃ x = some v → Fr h₀ L s₃.heap m → News h₀ L s₃.heap ((C, oC) :: news) → (∀ q ∈ news, q.1 ≠ C) →
      wpAny (model prog w) A (testsOf ifs (compEnvC sc cl C env)) (fun ok s₄ => ok = p v ∧ Keeps s₃ s₄) E' s₃)
    (helt : ∀ (C : Addr) (oC : Obj) (s₃ : Shared) m₃ (i : Nat) (v : Value) E', P i v → p v = true → NsObj oC m₃ → m₃ x = some v → Fr h₀ L s₃.heap m → News h₀ L s₃.heap ((C, oC) :: news) → (∀ q ∈ news, q.1 ≠ C) →
      wpAny (model prog w) A (eval elt (compEnvC sc cl C env)) (fun y s₄ => Stop (Rel v y ∧ Keeps s₃ s₄)) E' s₃)
    (hQ : ∀ (D : Addr) h' tk ys nD (vs : List Value), (∀ q ∈ news, q.1 ≠ D) → vs.length = n → (∀ j v, vs[j]? = some v → P j v) → Paired Rel (vs.filter p) ys.toList → Fr h₀ L h' (fun z => if z = y then some (.ref D) else m z) → News h₀ L h' ((D, listOf ys nD) :: news) →
      (∀ b o, b ≠ L → b ∉ [I] → s₂.heap.get? b = some o → h'.get? b = some o) → R D h' tk) :
    ∃ I' fp wr n P St m, (Value.ref I) = .ref I' ∧ Walks prog w A I' fp wr n P St ∧ n ≤ sizeLine ∧ St 0 s₂.heap ∧ (∀ b ∈ fp, b < s₂.heap.objs.size) ∧
      env.locals ∉ wr ∧ s₂.heap.Ns env.locals m ∧ QuietOnC prog w A env sc cl x ifs elt wr P p Rel s₂ ∧
      (∀ D h' tk ys (vs : List Value), s₂.heap.get? D = none → h'.IsList D ys → h'.PlainList D ys → vs.length = n → (∀ j v, vs[j]? = some v → P j v) → Paired Rel (vs.filter p) ys.toList →
        h'.Ns env.locals (fun z => if z = y then some (.ref D) else m z) → (∀ b o, b ≠ env.locals → b ∉ wr → s₂.heap.get? b = some o → h'.get? b = some o) → R D h' tk) := by
  subst hLe
  refine ⟨I, fp, [I], n, P, St, m, rfl, W, hsz, hst, hfp, fun q => hIL (List.mem_singleton.mp q), F.ns, quietOf F N hIL hI₀ hIn htest helt, ?_⟩
  intro D h' tk ys vs hD hl hpl hlen hP hF hns hk
  obtain ⟨nD, hpl⟩ := hpl
  have hL₀ : h₀.get? env.locals = none := Heap.get?_none_of_le F.above
  have F' : Fr h₀ env.locals h' (fun z => if z = y then some (.ref D) else m z) := ⟨hns, fun b o e => hk b o (fun q => by rw [q, hL₀] at e; cases e) (fun q => by rw [List.mem_singleton.mp q, hI₀] at e; cases e) (F.keep b o e), F.above⟩
  refine hQ D h' tk ys nD vs (fun q hq e => by have := (N q hq).1; rw [e, hD] at this; cases this) hlen hP hF F' ?_ hk
  intro q hq
  rcases List.mem_cons.mp hq with rfl | hq
  · refine ⟨hpl, ?_, ?_⟩
    · intro e
      obtain ⟨oL, _, _, hL, _⟩ := F.ns
      have e' : D = env.locals := e
      rw [e', hL] at hD
      cases hD
    · cases e : h₀.get? D with
      | none => rfl
      | some o => rw [F.keep _ _ e] at hD; cases hD
  · exact ⟨hk _ _ (N q hq).2.1 (fun r => hIn q hq (List.mem_singleton.mp r)) (N q hq).1, (N q hq).2⟩
end
section
variable {prog : Program} {w : World} {A : Around} {h₀ : Heap} {E : Value → Shared → Prop} {L : Addr} {env : Env} {s : Shared} {m : Str → Option Value} {news : List (Addr × Obj)}
theorem iterFresh {o : Obj} (F : Fr h₀ L s.heap m) (N : News h₀ L s.heap news) : L ≠ s.heap.objs.size ∧ h₀.get? s.heap.objs.size = none ∧ (∀ q ∈ news, q.1 ≠ s.heap.objs.size) ∧ Fr h₀ L (s.heap.push o) m ∧ News h₀ L (s.heap.push o) news :=
  ⟨Nat.ne_of_lt F.ns.lt, next_is_new F, fun q hq => Nat.ne_of_lt (Heap.lt_size (N q hq).1), F.push _, fun q hq => ⟨Heap.get?_push_of_some _ (N q hq).1, (N q hq).2⟩⟩
theorem iterTup {p : Addr} {items : Array Value} {R : Value → Shared → Prop} (hh : A.handled = none) (hT : s.heap.IsTuple p items) (F : Fr h₀ L s.heap m) (N : News h₀ L s.heap news)
    (h : ∀ I (s₂ : Shared), (∃ h', s₂ = { s with heap := h' }) → Walks prog w A I [I, p] [I] items.size (fun i v => items[i]? = some v) (fun i h => h.IsTupleIter I p i ∧ h.IsTuple p items) → (s₂.heap.IsTupleIter I p 0 ∧ s₂.heap.IsTuple p items) → (∀ b ∈ [I, p], b < s₂.heap.objs.size) →
      L ≠ I → h₀.get? I = none → (∀ q ∈ news, q.1 ≠ I) → Fr h₀ L s₂.heap m → News h₀ L s₂.heap news → (∀ b o, s.heap.get? b = some o → s₂.heap.get? b = some o) → s.heap.get? I = none → R (.ref I) s₂) :
    wpAny (model prog w) A (pyIter (.ref p)) R E s := by
  refine wpAny_pyIter_tuple hT ?_
  obtain ⟨op, hop, hcp, np, hdp⟩ := id hT
  have hlt : p < s.heap.objs.size := Heap.lt_size hop
  obtain ⟨a, b, c, d, e⟩ := iterFresh (o := { cls := .type "tuple_iterator", data := .fields #[.ref p, .int 0 0] }) F N
  refine h s.heap.objs.size _ ⟨_, rfl⟩ (Walks.tuple hh s.heap.objs.size p (Nat.ne_of_lt hlt) items) ⟨⟨_, Heap.get?_push_size _ rfl, rfl, rfl⟩, hT.push _⟩ ?_ a b c d e (fun b o e => Heap.get?_push_of_some _ e) (Heap.get?_none_of_le (Nat.le_refl _))
  intro q hq
  show q < (s.heap.push _).objs.size
  rw [Heap.size_push]
  rcases List.mem_cons.mp hq with rfl | hq
  · exact Nat.lt_succ_self _
  · rw [List.mem_singleton.mp hq]; exact Nat.lt_succ_of_lt hlt
theorem iterList {p : Addr} {items : Array Value} {R : Value → Shared → Prop} (hh : A.handled = none) (hT : s.heap.IsList p items) (F : Fr h₀ L s.heap m) (N : News h₀ L s.heap news)
    (h : ∀ I (s₂ : Shared), (∃ h', s₂ = { s with heap := h' }) → Walks prog w A I [I, p] [I] items.size (fun i v => items[i]? = some v) (fun i h => h.IsListIter I p i ∧ h.IsList p items) → (s₂.heap.IsListIter I p 0 ∧ s₂.heap.IsList p items) → (∀ b ∈ [I, p], b < s₂.heap.objs.size) →
      L ≠ I → h₀.get? I = none → (∀ q ∈ news, q.1 ≠ I) → Fr h₀ L s₂.heap m → News h₀ L s₂.heap news → (∀ b o, s.heap.get? b = some o → s₂.heap.get? b = some o) → s.heap.get? I = none → R (.ref I) s₂) :
    wpAny (model prog w) A (pyIter (.ref p)) R E s := by
  refine wpAny_pyIter_list hT ?_
  obtain ⟨op, hop, hcp, np, hdp⟩ := id hT
  have hlt : p < s.heap.objs.size := Heap.lt_size hop
  obtain ⟨a, b, c, d, e⟩ := iterFresh (o := { cls := .type "list_iterator", data := .fields #[.ref p, .int 0 0] }) F N
  refine h s.heap.objs.size _ ⟨_, rfl⟩ (Walks.list hh s.heap.objs.size p (Nat.ne_of_lt hlt) items) ⟨⟨_, Heap.get?_push_size _ rfl, rfl, rfl⟩, hT.push _⟩ ?_ a b c d e (fun b o e => Heap.get?_push_of_some _ e) (Heap.get?_none_of_le (Nat.le_refl _))
  intro q hq
  show q < (s.heap.push _).objs.size
  rw [Heap.size_push]
  rcases List.mem_cons.mp hq with rfl | hq
  · exact Nat.lt_succ_self _
  · rw [List.mem_singleton.mp hq]; exact Nat.lt_succ_of_lt hlt
theorem iterRange {r : Addr} {b₀ : Int} {n : Nat} {t₀ u₀ v₀ : Tok} {R : Value → Shared → Prop} (hh : A.handled = none) (hr : IsRange s.heap r 0 b₀ 1 t₀ u₀ v₀) (hsmall : Builtin.Range.small 0 b₀ 1 = true) (hn : Builtin.Range.rangeSize 0 b₀ 1 = (n : Int)) (F : Fr h₀ L s.heap m) (N : News h₀ L s.heap news)
    (h : ∀ I (s₂ : Shared), (∃ h', s₂ = { s with heap := h' }) → Walks prog w A I [I] [I] n (fun i v => ∃ t, v = .int (0 + (i : Int)) t) (fun i h => IsRangeIter h I (0 + (i : Nat) * 1) ((n : Int) - (i : Nat)) 1) → IsRangeIter s₂.heap I (0 + (0 : Nat) * 1) ((n : Int) - (0 : Nat)) 1 → (∀ b ∈ [I], b < s₂.heap.objs.size) →
      L ≠ I → h₀.get? I = none → (∀ q ∈ news, q.1 ≠ I) → Fr h₀ L s₂.heap m → News h₀ L s₂.heap news → (∀ b o, s.heap.get? b = some o → s₂.heap.get? b = some o) → s.heap.get? I = none → R (.ref I) s₂) :
    wpAny (model prog w) A (pyIter (.ref r)) R E s := by
  refine wpAny_pyIter_range hr hsmall ?_
  rw [hn]
  obtain ⟨a, b, c, d, e⟩ := iterFresh (o := { cls := .type "range_iterator", data := .fields #[rawInt 0, rawInt (n : Int), rawInt 1] }) F N
  refine h s.heap.objs.size _ ⟨_, rfl⟩ (LCg.range_walks hh 0 n) ?_ ?_ a b c d e (fun b o e => Heap.get?_push_of_some _ e) (Heap.get?_none_of_le (Nat.le_refl _))
  · simpa using Heap.get?_push_size (o := ({ cls := .type "range_iterator", data := .fields #[rawInt 0, rawInt (n : Int), rawInt 1] } : Obj)) _ rfl
  intro q hq
  show q < (s.heap.push _).objs.size
  rw [Heap.size_push, List.mem_singleton.mp hq]
  exact Nat.lt_succ_self _
end
theorem paired_all {F : Value → Value → Prop} {vs : List Value} {ys : Array Value} (h : Paired F (vs.filter fun _ => true) ys.toList) : vs.length = ys.size ∧ ∀ (i : Nat) v y, vs[i]? = some v → ys[i]? = some y → F v y := by
  have e : vs.filter (fun _ => true) = vs := List.filter_eq_self.mpr fun _ _ => rfl
  rw [e] at h
  exact ⟨(paired_len h).trans Array.length_toList, fun i v y hv hy => paired_at h i v y hv (by simpa using hy)⟩
theorem arr3 {ys : Array Value} (h : ys.size = 3) : ∃ a b c, ys = #[a, b, c] := by
  refine ⟨ys[0], ys[1], ys[2], ?_⟩
  apply Array.ext
  · simpa using h
  · intro i h1 h2
    match i, h2 with
    | 0, _ => rfl
    | 1, _ => rfl
    | 2, _ => rfl
/-- three items through a comprehension -/
theorem paired3 {F : Value → Value → Prop} {vs : List Value} {ys : Array Value} {a b c : Value} (h : Paired F (vs.filter fun _ => true) ys.toList) (hl : vs.length = (#[a, b, c] : Array Value).size) (hv : ∀ (j : Nat) v, vs[j]? = some v → (#[a, b, c] : Array Value)[j]? = some v) :
    ∃ x y z, ys = #[x, y, z] ∧ F a x ∧ F b y ∧ F c z := by
  obtain ⟨h1, h2⟩ := paired_all h
  obtain ⟨x, y, z, rfl⟩ := arr3 (h1.symm.trans hl)
  have q : ∀ j (hj : j < 3) v, (#[a, b, c] : Array Value)[j]? = some v → vs[j]? = some v := by
    intro j hj v e
    have hj' : j < vs.length := by rw [hl]; exact hj
    have := hv j _ (List.getElem?_eq_getElem hj')
    rw [e] at this
    rw [List.getElem?_eq_getElem hj']
    exact this.symm
  exact ⟨x, y, z, rfl, h2 0 a x (q 0 (by decide) a rfl) rfl, h2 1 b y (q 1 (by decide) b rfl) rfl, h2 2 c z (q 2 (by decide) c rfl) rfl⟩
/-- a pure def called, and what it keeps of the heap -/
theorem CpL.useK {lv : Nat} {w : World} {mean : ExcName → Option Value} {mg mb : Str → Option Value} {f : Addr} {pre : Heap → Prop} {vs : List Value} {R : Tok → Value} (C : CpL lv w mean mg mb f pre vs R)
    {dp un : Nat} {gd : Option (List Code)} {cn : Str} {cs : Scope} {a : Addr} {ccd : Value} {cl : List (Str × Addr)} {outer : List Env} {A₀ : Around} {base h₀ : Heap} {L : Addr} {m : Str → Option Value} {s : Shared} {Q E : Value → Shared → Prop} {news : List (Addr × Obj)}
    (B : Below A₀ base outer h₀) (F : Fr h₀ L s.heap m) (X : (hd.heap_39 w.params).In h₀) (N : News h₀ L s.heap news) (T : Top hd.view_39 (looseW hd.view_39 [Str.ofString "_MIN_DIFF_LEN", Str.ofString "safe_repr", Str.ofString "COMPILER_FLAG_NAMES", Str.ofString "_filemode_table"]) mean mg mb h₀) (hk : cs.kind = .function)
    (hp : pre s.heap) (hd : dp + lv < recursionLimit) (hu : un + 10 * lv < cLine)
    (h : ∀ (t : Tok) (h' : Heap) (tk' : Nat), s.heap.StaysIn h' → Fr h₀ L h' m → News h₀ L h' news → Q (R t) { s with heap := h', toks := tk' }) :
    wpAny (model Challenge.rw_om0040_01.row.prog w) (ktrTop dp un gd cn cs L a ccd cl outer) (call (.ref f) vs) Q E s :=
  C dp un gd cn cs a ccd cl outer A₀ base h₀ L m s Q E B F X T hk hp hd hu fun t h' tk' st => h t h' tk' st (frKeep F st) (newsKeep N st)
end Mine
end
section
open PySem PySem.W PyProof.Rows
set_option Elab.async false
set_option maxRecDepth 100000
set_option maxHeartbeats 2000000
namespace Mine
def fmtF : Str := ⟨#[37, 115, 91, 37, 100, 32, 99, 104, 97, 114, 115, 93, 37, 115]⟩
theorem fmt_meets (t : Tok) (p : Addr) (x y : Str) (n : Int) (t1 t2 t3 : Tok) (hx : x.length ≤ 1000000) (hy : y.length ≤ 1000000) (h0 : 0 ≤ n) (h1 : n < 10 ^ 10) :
    Meets (Builtin.«str.__mod__» ⟨[.str ⟨#[37, 115, 91, 37, 100, 32, 99, 104, 97, 114, 115, 93, 37, 115]⟩ t, .ref p], []⟩) (fun _ R s => IsTup s.heap p #[.str x t1, .int n t2, .str y t3] ∧ ∀ t' k, R (.ok (.ret (.str (x ++ Str.ofString "[" ++ Str.ofString (toString n) ++ Str.ofString " chars]" ++ y) t'))) { s with toks := k }) := by
  k_dflt kpt_run
end Mine
end
section
open PySem PySem.W PyProof.Rows
set_option Elab.async false
set_option maxRecDepth 100000
set_option maxHeartbeats 4000000
namespace Mine
def shortOf (x : Str) (p q : Int) : Str :=
  if 12 < (x.length : Int) - p - q then Txt.slice x none (some p) ++ Str.ofString "[" ++ Str.ofString (toString ((x.length : Int) - p - q)) ++ Str.ofString " chars]" ++ Txt.slice x (some ((x.length : Int) - q)) none else x
theorem fmt_str : Str.ofString "%s[%d chars]%s" = ⟨#[37, 115, 91, 37, 100, 32, 99, 104, 97, 114, 115, 93, 37, 115]⟩ := by decide +kernel
local macro_rules | `(tactic| walk_at "binaryOp Mod str ref") => `(tactic| (k_here; (with_reducible show wpAny _ _ (binaryOp Operator.Mod (Value.str _ _) (Value.ref _)) _ _ _); k_dflt (refine' KPt.mod_tuple ?kptN ?kptb fmt_str (fmt_meets _ _ _ _ _ _ _ _ ?h1 ?h2 ?h3 ?h4) ?_; (case kptN => k_asm); (case kptb => k_mem); (case h1 => omega); (case h2 => omega); (case h3 => omega); (case h4 => omega)); intro _ _))
theorem spec_shorten (w : World) (mean : ExcName → Option Value) (mg mb : Str → Option Value) (x : Str) (t0 : Tok) (p q : Int) (t1 t2 : Tok) :
    CpL 5 w mean mg mb 28 (fun _ => 0 ≤ p ∧ 0 ≤ q ∧ p < 1000 ∧ q < 1000 ∧ x.length < 1000) [Value.str x t0, Value.int p t1, Value.int q t2] (fun t => Value.str (shortOf x p q) t) := by
  dsimp only [CpL]
  k_fill
  w_on
  intro dp un gd cn cs a ccd cl outer A₀ base h₀ L m s Q E B F X T hk hpre hd hu hret
  refine wpAny_call ?_
  k_dflt (refine' callP ?k1 ?k2 ?k3 ?k5 ?kA ?kF ?kK ?k6 ?k7 ?k8 ?k9 ?kB ?_ ?c2 ?c3 ?c4 ?c5; (case kA => exact rfl); (case kF => exact rfl); (case kK => assumption); (case k1 => k_asm); (case k2 => k_asm); (case k3 => k_asm); (case k5 => k_asm); (case k6 => k_is); (case k7 => k_is); (case k8 => ktr_room); (case k9 => first | exact BindsTo.of_eq rfl | exact binds_K (by k_in) rfl (by k_is) rfl rfl rfl); (case c5 => decide); (case kB => exact locs rfl); (case c2 => exact rfl); (case c3 => exact rfl); (case c4 => exact rfl); k_whole; intro L' h' F' N' B' X' T'; (try dsimp only); (try k_fold))
  k_steps
  all_goals (refine cp_retS (Q := Q) hret (by assumption) ?_; unfold shortOf; (first | rw [if_pos (by assumption)] | rw [if_neg (by assumption)]))
end Mine
end
section
open PySem PySem.W PyProof.Rows
set_option Elab.async false
set_option maxRecDepth 100000
set_option maxHeartbeats 1000000
namespace Mine
open PySem PySem.Spec PySem.Calls
section
variable {prog : Program} {w : World} {A : Around} {s : Shared} {K : Frag} {p : Program} {loose : List Str} {mg mb : Str → Option Value}
  {R : Result → Shared → Prop} {name qual : Str} {params : Arguments} {body : List Stmt} {scope : Scope} {dV kV doc pm cdv ct oc : Value} {an od : Option Addr} {osl : Array (Option Value)} {f : Addr} {args : Args} {binds : List (Str × Value)}
/-- a call of a def, whatever frames are around -/
theorem callA (X₀ : K.In s.heap) (T : TopRead p loose mg mb s.heap)
    (ho : K.lookup f = some ⟨oc, od, .func (fnOf name qual params body scope dV kV doc pm an cdv ct), osl⟩) (hcd : codeIn K cdv qual = true) (hroom : A.depth < recursionLimit)
    (hbind : BindsTo s (fnOf name qual params body scope dV kV doc pm an cdv ct) args binds) (hloc : ∀ y ∈ binds, scope.names.lookup y.1 = some .local)
    (h : ∀ L' h₁, Fr s.heap L' h₁ (fun y => binds.reverse.lookup y) → News s.heap L' h₁ [] → K.In s.heap → TopRead p loose mg mb s.heap →
      wpAny (model prog w) (A.deeper (envOf qual scope L' f cdv)) (execs body (envOf qual scope L' f cdv))
        (fun fl s' => R (.ok (.ret (match fl with | .ret v => v | _ => .none))) s')
        (fun e s' => wpAny (model prog w) (A.deeper (envOf qual scope L' f cdv)) (leaving (envOf qual scope L' f cdv) e) (fun _ s'' => R (.error e) s'') (fun e' s'' => R (.error e') s'') s')
        { s with heap := h₁, toks := s.toks + binds.length })
    (hco : scope.isCoroutine = false) (hgen : scope.isGenerator = false) (hk : scope.kind = .function)
    (hcell : ∀ x ∈ scope.names, x.2 ≠ .cell) : codeAny (model prog w) A (.call (.ref f) args) R s := by
  refine codeAny_call_def (fd := fnX name qual params body scope [] dV kV doc pm an cdv ct) (body := body) (binds := binds) hroom (X₀ _ _ ho) rfl T.nolimit (codeRec_of X₀ hcd) rfl hbind hcell hloc (fun h₁ hns hk₁ => ?_) hco hgen hk
  exact h s.heap.objs.size h₁ ⟨hns, fun b o e => hk₁ b o e, Nat.le_refl _⟩ News.nil X₀ T
end
/-- a pure def, whatever frames are around -/
abbrev CpA (lv : Nat) (w : World) (mg mb : Str → Option Value) (f : Addr) (pre : Heap → Prop) (vs : List Value) (R : Tok → Value) : Prop :=
  ∀ (dp un : Nat) (gd : Option (List Code)) (fr : Option (List Env)) (s : Shared) (Q E : Value → Shared → Prop),
    (hd.heap_39 w.params).In s.heap → TopRead hd.view_39 (looseW hd.view_39 [Str.ofString "_MIN_DIFF_LEN", Str.ofString "safe_repr", Str.ofString "COMPILER_FLAG_NAMES", Str.ofString "_filemode_table"]) mg mb s.heap →
    pre s.heap → dp + lv < recursionLimit → un + 10 * lv < cLine → (∀ (t : Tok) (h' : Heap) (tk' : Nat), s.heap.StaysIn h' → Q (R t) { s with heap := h', toks := tk' }) →
      wpAny (model Challenge.rw_om0040_01.row.prog w) { handled := none, depth := dp, frames := fr, guards := gd, units := un } (call (.ref f) vs) Q E s
local macro_rules | `(tactic| walk_at "binaryOp Mod str ref") => `(tactic| (k_here; (with_reducible show wpAny _ _ (binaryOp Operator.Mod (Value.str _ _) (Value.ref _)) _ _ _); k_dflt (refine' KPt.mod_tuple ?kptN ?kptb fmt_str (fmt_meets _ _ _ _ _ _ _ _ ?h1 ?h2 ?h3 ?h4) ?_; (case kptN => k_asm); (case kptb => k_mem); (case h1 => omega); (case h2 => omega); (case h3 => omega); (case h4 => omega)); intro _ _))
theorem spec_shortenA (w : World) (mg mb : Str → Option Value) (x : Str) (t0 : Tok) (p q : Int) (t1 t2 : Tok) :
    CpA 5 w mg mb 28 (fun _ => 0 ≤ p ∧ 0 ≤ q ∧ p < 1000 ∧ q < 1000 ∧ x.length < 1000) [Value.str x t0, Value.int p t1, Value.int q t2] (fun t => Value.str (shortOf x p q) t) := by
  dsimp only [CpA]
  k_fill
  w_on
  intro dp un gd fr s Q E X T hpre hd hu hret
  refine wpAny_call ?_
  k_dflt (refine' callA ?k3 ?k5 ?k6 ?k7 ?k8 ?k9 ?kB ?_ ?c2 ?c3 ?c4 ?c5; (case k3 => k_asm); (case k5 => k_asm); (case k6 => k_is); (case k7 => k_is); (case k8 => ktr_room); (case k9 => first | exact BindsTo.of_eq rfl | exact binds_K (by k_in) rfl (by k_is) rfl rfl rfl); (case c5 => decide); (case kB => exact locs rfl); (case c2 => exact rfl); (case c3 => exact rfl); (case c4 => exact rfl); k_whole; intro L' h' F' N' X' T'; (try dsimp only); (try k_fold))
  k_steps
  all_goals (refine cp_retS (Q := Q) hret (by assumption) ?_; unfold shortOf; (first | rw [if_pos (by assumption)] | rw [if_neg (by assumption)]))
local macro_rules | `(tactic| walk_at "call builtin:repr") => `(tactic| (refine P.repr_of_str (hsz := by assumption) ?_))
theorem spec_safe_reprA (w : World) (mg mb : Str → Option Value) (x : Str) (t0 : Tok) :
    CpA 5 w mg mb 69 (fun _ => (reprText x).length ≤ sizeLine) [Value.str x t0] (fun t => Value.str (reprText x) t) := by
  dsimp only [CpA]
  k_fill
  w_on
  intro dp un gd fr s Q E X T hpre hd hu hret
  refine wpAny_call ?_
  k_dflt (refine' callA ?k3 ?k5 ?k6 ?k7 ?k8 ?k9 ?kB ?_ ?c2 ?c3 ?c4 ?c5; (case k3 => k_asm); (case k5 => k_asm); (case k6 => k_is); (case k7 => k_is); (case k8 => ktr_room); (case k9 => first | exact BindsTo.of_eq rfl | exact binds_K (by k_in) rfl (by k_is) rfl rfl rfl); (case c5 => decide); (case kB => exact locs rfl); (case c2 => exact rfl); (case c3 => exact rfl); (case c4 => exact rfl); k_whole; intro L' h' F' N' X' T'; (try dsimp only); (try k_fold))
  k_steps
  all_goals exact cp_retS (Q := Q) hret (by assumption) rfl
end Mine
end
section
open PySem PySem.W PyProof.Rows
set_option Elab.async false
set_option maxRecDepth 100000
set_option maxHeartbeats 2000000
namespace Mine
open PySem PySem.Spec PySem.Calls
/-! facts of the type map -/
theorem slot_map_iter : Slot "map" "__iter__" "map.__iter__" :=
  .of (owner := "map") (n := "__iter__") (by rw [typeLookup_type, builtinLookup_eq_fast]; kernel_rfl) (by decide +kernel) (by decide +kernel) (by decide +kernel)
    (by first | exact .inl (by decide +kernel) | exact .inr (by decide +kernel)) (by rw [isSubtype_type]; kernel_rfl)
theorem slot_map_next : Slot "map" "__next__" "map.__next__" :=
  .of (owner := "map") (n := "__next__") (by rw [typeLookup_type, builtinLookup_eq_fast]; kernel_rfl) (by decide +kernel) (by decide +kernel) (by decide +kernel)
    (by first | exact .inl (by decide +kernel) | exact .inr (by decide +kernel)) (by rw [isSubtype_type]; kernel_rfl)
theorem owner_map : Manifest.owners.lookup (String.ofList ['p', 'a', 'm'].reverse) = some Manifest.sig_map := by kernel_rfl
theorem entry_map_next : entryFor table "map.__next__" = some Builtin.«map.__next__» := entryFor_of_tree (by kernel_rfl)
theorem entry_map_new : entryFor table "map.__new__" = some Builtin.«map.__new__» := entryFor_of_tree (by kernel_rfl)
theorem args_map_next_1 (a : Value) : argsOk "map.__next__" ⟨[a], []⟩ := by
  unfold argsOk; rw [signature?_of (id := "map.__next__") (n := ['_', '_', 't', 'x', 'e', 'n', '_', '_']) (o := ['p', 'a', 'm']) (by kernel_rfl) owner_map]; kernel_rfl
theorem args_map_iter_1 (a : Value) : argsOk "map.__iter__" ⟨[a], []⟩ := by
  unfold argsOk; rw [signature?_of (id := "map.__iter__") (n := ['_', '_', 'r', 'e', 't', 'i', '_', '_']) (o := ['p', 'a', 'm']) (by kernel_rfl) owner_map]; kernel_rfl
theorem typeCall_map_2 (a b : Value) : checkTypeCall "map" ⟨[a, b], []⟩ = pure () := by kernel_rfl
theorem newCall_map_2 (a b : Value) : checkBuiltinCall "map.__new__" ⟨[.type "map", a, b], []⟩ = pure () := by kernel_rfl
theorem sub_map : isSubtype (.type "map") (.type "map") = pure true := by rw [isSubtype_type]; kernel_rfl
theorem map_no_len : typeLookup (.type "map") "__len__" = pure none := by rw [typeLookup_type, builtinLookup_eq_fast]; kernel_rfl
theorem map_no_hint : typeLookup (.type "map") "__length_hint__" = pure none := by rw [typeLookup_type, builtinLookup_eq_fast]; kernel_rfl
theorem slot_map_init : Slot "map" "__init__" "object.__init__" :=
  .of (owner := "object") (n := "__init__") (by rw [typeLookup_type, builtinLookup_eq_fast]; kernel_rfl) (by decide +kernel) (by decide +kernel) (by decide +kernel)
    (by first | exact .inl (by decide +kernel) | exact .inr (by decide +kernel)) (by rw [isSubtype_type]; kernel_rfl)
theorem entry_map_iter : entryFor table "map.__iter__" = some Builtin.«dict_keyiterator.__iter__» :=
  entryFor_alias (id' := "dict_keyiterator.__iter__") (by kernel_rfl) (by first | rfl | decide +kernel | (unfold String.splitOn; simp +decide [String.splitOnAux])) (by decide +kernel) (by kernel_rfl)
theorem mro_map : mroOf (.type "map") = pure [.type "map", .type "object"] := by rw [mroOf_type]; kernel_rfl
theorem lookup_map_new : typeLookup (.type "map") "__new__" = pure (some (.builtin "map.__new__")) := by rw [typeLookup_type, builtinLookup_eq_fast]; kernel_rfl
theorem called_map : TypeCalled "map" "map.__new__" "object.__init__" :=
  ⟨by decide +kernel, by decide +kernel, ⟨_, _, mro_map⟩, madeBy_type mro_map lookup_map_new (by decide +kernel), by decide +kernel, by rw [isSubtype_type]; kernel_rfl, slot_map_init⟩
abbrev mapObj (tp : Addr) (f : Value) : Obj := { cls := .type "map", dict := none, data := .fields #[.ref tp, f], slots := #[] }
abbrev oneTup (I : Addr) : Obj := { cls := .type "tuple", data := .seq #[.ref I] }
abbrev tupIt (p : Addr) : Obj := { cls := .type "tuple_iterator", data := .fields #[.ref p, .int 0 0] }
abbrev mapH1 (h : Heap) (p : Addr) : Heap := h.push (tupIt p)
abbrev mapH2 (h : Heap) (p : Addr) : Heap := (mapH1 h p).push (oneTup h.objs.size)
abbrev mapH3 (h : Heap) (p : Addr) (f : Value) : Heap := (mapH2 h p).push (mapObj (mapH1 h p).objs.size f)
theorem meets_map_new (f : Value) (p : Addr) (items : Array Value) :
    Meets (Builtin.«map.__new__» ⟨[.type "map", f, .ref p], []⟩) (fun _ R s => s.heap.IsTuple p items ∧
      R (.ok (.ret (.ref (mapH2 s.heap p).objs.size))) { s with heap := mapH3 s.heap p f }) :=
  .of_wp fun prog w A R s h => by
    obtain ⟨hp, g, d, tk, os⟩ := s; obtain ⟨hl, h⟩ := h
    have hsub := sub_map
    have hL : Heap.IsTuple (Shared.heap ⟨hp, g, d, tk, os⟩) p items := hl
    wp_walk using wpAny_pyIter_tuple hL
    exact ⟨_, rfl, h⟩
section
variable {prog : Program} {w : World} {A : Around} {E : Value → Shared → Prop} {s : Shared}
theorem call_map {f : Value} {p : Addr} {items : Array Value} {Q : Value → Shared → Prop} (hT : s.heap.IsTuple p items)
    (h : ∀ h', h'.get? (s.heap.objs.size + 2) = some (mapObj (s.heap.objs.size + 1) f) → h'.get? (s.heap.objs.size + 1) = some (oneTup s.heap.objs.size) → h'.get? s.heap.objs.size = some (tupIt p) → h'.objs.size = s.heap.objs.size + 3 →
      (∀ b o, s.heap.get? b = some o → h'.get? b = some o) → Q (.ref (s.heap.objs.size + 2)) { s with heap := h' }) :
    wpAny (model prog w) A (call (.type "map") [f, .ref p]) Q E s := by
  refine callType_new called_map (by decide) (typeCall_map_2 _ _) (newCall_map_2 _ _) (fun obj => F.args_object_init_3 obj _ _) entry_map_new (meets_map_new f p items) ⟨hT, ?_⟩
  have z1 : (mapH1 s.heap p).objs.size = s.heap.objs.size + 1 := Heap.size_push ..
  have z2 : (mapH2 s.heap p).objs.size = s.heap.objs.size + 2 := by rw [Heap.size_push, z1]
  have z3 : (mapH3 s.heap p f).objs.size = s.heap.objs.size + 3 := by rw [Heap.size_push, z2]
  have g3 : (mapH3 s.heap p f).get? (mapH2 s.heap p).objs.size = some _ := Heap.get?_push_size _ rfl
  have g2 : (mapH3 s.heap p f).get? (mapH1 s.heap p).objs.size = some _ := Heap.get?_push_of_some _ (Heap.get?_push_size _ rfl)
  have g1 : (mapH3 s.heap p f).get? s.heap.objs.size = some _ := Heap.get?_push_of_some _ (Heap.get?_push_of_some _ (Heap.get?_push_size _ rfl))
  show _ ∧ _
  rw [z1, z2] at g3
  rw [z1] at g2
  rw [z2]
  exact ⟨⟨_, g3, rfl⟩, h _ g3 g2 g1 z3 fun b o x => Heap.get?_push_of_some _ (Heap.get?_push_of_some _ (Heap.get?_push_of_some _ x))⟩
theorem map_next_item {M tp I p : Addr} {f : Value} {i : Nat} {items : Array Value} {x : Value} {Fv : Value → Value → Prop} {Q : Value → Shared → Prop}
    (hM : s.heap.get? M = some (mapObj tp f)) (htp : s.heap.get? tp = some (oneTup I)) (hit : s.heap.IsTupleIter I p i) (hT : s.heap.IsTuple p items) (hx : items[i]? = some x) (hMI : M ≠ I)
    (hf : ∀ (s₁ : Shared) Q', (∃ h₁, s₁ = { s with heap := h₁ } ∧ Heap.SameBut I s.heap h₁) → (∀ v h' tk, Fv x v → s₁.heap.StaysIn h' → Q' v { s₁ with heap := h', toks := tk }) → wpAny (model prog w) A (call f [x]) Q' E s₁)
    (hQ : ∀ v h' tk, Fv x v → h'.IsTupleIter I p (i + 1) → (∀ b o, b ≠ I → s.heap.get? b = some o → h'.get? b = some o) → Q v { s with heap := h', toks := tk }) :
    wpAny (model prog w) A (Builtin.«map.__next__» ⟨[.ref M], []⟩) (fun fin s' => ∃ v, fin = .done (.ret v) ∧ Q v s') E s := by
  show wpAny _ _ (field (.ref M) 0 >>= _) _ _ _
  refine wpAny_bind (wpAny_field hM rfl (x := .ref tp) rfl ?_)
  refine wpAny_bind (wpAny_seqItems htp rfl ?_)
  dsimp only
  refine wpAny_bind ?_
  simp only [List.forIn_toArray, List.forIn_cons, List.forIn_nil]
  refine wpAny_bind (wpAny_bind (wpAny_holding (nextOf_tup_item hit hT hx fun h₁ hit₁ hs₁ => ?_)))
  refine wpAny_pure (wpAny_pure ?_)
  show wpAny _ _ (field (.ref M) 1 >>= _) _ _ _
  refine wpAny_bind (wpAny_field (hs₁.extBut _ _ hMI hM) rfl (x := f) rfl ?_)
  refine wpAny_bind (wpAny_holding (hf _ _ ⟨h₁, rfl, hs₁⟩ fun v h' tk hv st => ?_))
  refine wpAny_bind (wpAny_letGo (wpAny_pure ⟨v, rfl, hQ v h' tk hv (hit₁.at fun o e => st _ _ e) fun b o hb e => st _ _ (hs₁.extBut b o hb e)⟩))
theorem map_next_end {M tp I p : Addr} {f : Value} {i : Nat} {items : Array Value} {Q : Fin → Shared → Prop} (hh : A.handled = none)
    (hM : s.heap.get? M = some (mapObj tp f)) (htp : s.heap.get? tp = some (oneTup I)) (hit : s.heap.IsTupleIter I p i) (hT : s.heap.IsTuple p items) (hx : items[i]? = none)
    (hE : ∀ h' e, Heap.ExtBut I s.heap h' → (∃ o, h'.get? e = some o ∧ o.cls = .type "StopIteration") → E (.ref e) { s with heap := h' }) :
    wpAny (model prog w) A (Builtin.«map.__next__» ⟨[.ref M], []⟩) Q E s := by
  show wpAny _ _ (field (.ref M) 0 >>= _) _ _ _
  refine wpAny_bind (wpAny_field hM rfl (x := .ref tp) rfl ?_)
  refine wpAny_bind (wpAny_seqItems htp rfl ?_)
  dsimp only
  refine wpAny_bind ?_
  simp only [List.forIn_toArray, List.forIn_cons, List.forIn_nil]
  exact wpAny_bind (wpAny_bind (wpAny_holding (nextOf_tup_end hh hit hT hx hE)))
end
end Mine
end
section
open PySem PySem.W PyProof.Rows
set_option Elab.async false
set_option maxRecDepth 100000
set_option maxHeartbeats 2000000
namespace Mine
open PySem PySem.Spec PySem.Calls
/-- a map over a tuple, walked; href: the heap in which it was made -/
theorem walksMap {prog : Program} {w : World} {A : Around} {M tp I p : Addr} {f : Value} {items : Array Value} {Fv : Value → Value → Prop} {href : Heap} (hh : A.handled = none)
    (hM : href.get? M = some (mapObj tp f)) (htp : href.get? tp = some (oneTup I)) (hT : href.IsTuple p items) (hI : ∃ o, href.get? I = some o) (hMI : M ≠ I) (htI : tp ≠ I) (hpI : p ≠ I)
    (hf : ∀ (i : Nat) (x : Value) (s₁ : Shared) (Q' : Value → Shared → Prop) (E : Value → Shared → Prop), items[i]? = some x → (∀ b o, b ≠ I → href.get? b = some o → s₁.heap.get? b = some o) →
      (∀ v h' tk, Fv x v → s₁.heap.StaysIn h' → Q' v { s₁ with heap := h', toks := tk }) → wpAny (model prog w) A.in1 (call f [x]) Q' E s₁) :
    Walks prog w A M (List.range href.objs.size) [I] items.size (fun i v => ∃ x, items[i]? = some x ∧ Fv x v)
      (fun i h => h.IsTupleIter I p i ∧ ∀ b o, b ≠ I → href.get? b = some o → h.get? b = some o) where
  sub := fun b hb => by
    rw [List.mem_singleton.mp hb]
    obtain ⟨o, e⟩ := hI
    exact List.mem_range.mpr (Heap.lt_size e)
  frame := fun i h h' st hk => by
    obtain ⟨oI, eI⟩ := hI
    exact ⟨st.1.at fun o e => hk I (List.mem_range.mpr (Heap.lt_size eI)) o e, fun b o hb e => hk b (List.mem_range.mpr (Heap.lt_size e)) o (st.2 b o hb e)⟩
  item := fun i s Q E hi st hQ => by
    obtain ⟨hit, hk⟩ := st
    have hM' := hk _ _ hMI hM
    have ht' := hk _ _ htI htp
    have hT' : s.heap.IsTuple p items := hT.at fun o e => hk _ _ hpI e
    have hTy : s.TypeIs (.ref M) "map" := ⟨_, hM', rfl⟩
    unfold pyNext
    refine wpAny_bind (wpAny_attempt (wpAny_callSpecial?_slot (name := Str.ofString "__next__") hTy slot_map_next
      (wpAny_call_entry slot_map_next hTy entry_map_next (map_next_item (Fv := Fv) hM' ht' hit hT' (x := items[i]) (by simp [hi]) hMI ?_ fun v h' tk hv hit' hk' => ?_) (args_map_next_1 _))))
    · rintro s₁ Q' ⟨h₁, rfl, hs₁⟩ hq
      exact hf i _ _ _ _ (by simp [hi]) (fun b o hb e => hs₁.extBut b o hb (hk b o hb e)) hq
    · exact wpAny_pure (hQ v h' tk ⟨items[i], by simp [hi], hv⟩ ⟨hit', fun b o hb e => hk' b o hb (hk b o hb e)⟩ fun b o hb e => hk' b o (fun q => hb (List.mem_singleton.mpr q)) e)
  done := fun s Q E st hQ => by
    obtain ⟨hit, hk⟩ := st
    have hM' := hk _ _ hMI hM
    have ht' := hk _ _ htI htp
    have hT' : s.heap.IsTuple p items := hT.at fun o e => hk _ _ hpI e
    have hTy : s.TypeIs (.ref M) "map" := ⟨_, hM', rfl⟩
    unfold pyNext
    refine wpAny_bind (wpAny_attempt (wpAny_callSpecial?_slot (name := Str.ofString "__next__") hTy slot_map_next
      (wpAny_call_entry slot_map_next hTy entry_map_next (map_next_end hh hM' ht' hit hT' (by simp) fun h' e he' hx' => ?_) (args_map_next_1 _))))
    obtain ⟨o, ho, hc⟩ := hx'
    refine wpAny_bind (wpAny_isInstance (T := "StopIteration") (b := true) ⟨o, ho, hc⟩ isSubtype_stop ?_)
    exact wpAny_pure (hQ h' s.toks fun b o hb e => he' b o (fun q => hb (List.mem_singleton.mpr q)) e)
  self := fun i s Q E st hQ => by
    have hTy : s.TypeIs (.ref M) "map" := ⟨_, st.2 _ _ hMI hM, rfl⟩
    refine wpAny_pyIter_slot hTy slot_map_iter (wpAny_call_entry slot_map_iter hTy entry_map_iter ?_ (args_map_iter_1 _))
    show wpAny _ _ (ret (.ref M)) _ _ s
    exact wpAny_pure ⟨_, rfl, "map", _, hTy, slot_map_next.lookup, hQ⟩
section
variable {prog : Program} {w : World} {A : Around} {R : Result → Shared → Prop} {I : Addr} {fp wr : List Addr} {n : Nat} {P : Nat → Value → Prop} {St : Nat → Heap → Prop}
theorem extend_loopW (W : Walks prog w A.in1 I fp wr n P St) (hn : n ≤ sizeLine) (S : Addr) (hSf : S ∉ fp) (res : Value) :
    ∀ (k i : Nat) (s : Shared) (acc : Array Value) (c : Nat), n - i = k → i ≤ n → St i s.heap → s.heap.get? S = some { cls := .type "list", dict := none, data := .seq acc c, slots := #[] } → ItemsOf P acc i →
    (∀ h' tk acc' c', (∀ b o, b ≠ S → b ∉ wr → s.heap.get? b = some o → h'.get? b = some o) → h'.get? S = some { cls := .type "list", dict := none, data := .seq acc' c', slots := #[] } → ItemsOf P acc' n → R (.ok (.ret res)) { s with heap := h', toks := tk }) →
    codeAny (model prog w) A (.builtin "list.extend.loop" ⟨[.ref S, .ref I, res], []⟩) R s := by
  have hSw : S ∉ wr := fun h => hSf (W.sub _ h)
  intro k
  induction k with
  | zero =>
    intro i s acc c hk hi hst hS hacc hR
    have hin : i = n := by omega
    subst hin
    refine codeAny_builtin F.entry_extend_loop ?_
    rw [Around.under_plainId F.plain_extend_loop _]
    show wpAny _ A.in1 (pyNext (.ref I) >>= _) _ _ s
    refine wpAny_bind (W.done s _ _ hst fun h' tk hk' => ?_)
    exact wpAny_pure (hR h' tk acc c (fun b o _ hb e => hk' b o hb e) (hk' S _ hSw hS) hacc)
  | succ k ih =>
    intro i s acc c hk hi hst hS hacc hR
    have hlt : i < n := by omega
    refine codeAny_builtin F.entry_extend_loop ?_
    rw [Around.under_plainId F.plain_extend_loop _]
    show wpAny _ A.in1 (pyNext (.ref I) >>= _) _ _ s
    refine wpAny_bind (W.item i s _ _ hlt hst fun v h' tk hP hst' hm => ?_)
    have hS' := hm S _ hSw hS
    show wpAny _ A.in1 (updateSeq S (·.push v) >>= _) _ _ _
    refine wpAny_bind ?_
    refine wpAny_updateSeq hS' rfl (wpAny_pure ⟨plainId_quiet F.plain_extend_loop _, ih (i + 1) _ (acc.push v) _ (by omega) hlt (W.frame _ h' _ hst' fun b hb o e => ?_) (Heap.get?_update_self _ hS' rfl) (hacc.push hP) fun h'' tk'' acc' c' hm'' hS'' hacc' => ?_⟩)
      (by rw [hacc.1]; omega) (by show (acc.push v).size ≤ sizeLine + 1; rw [Array.size_push, hacc.1]; omega)
    · exact (Heap.get?_update_other _ _ (fun h : S = b => hSf (by rw [h]; exact hb))).trans e
    · refine hR h'' tk'' acc' c' (fun b o hb hbw e => hm'' b o hb hbw ?_) hS'' hacc'
      exact (Heap.get?_update_other _ _ (Ne.symm hb)).trans (hm b o hbw e)
end
section
variable {prog : Program} {w : World} {A : Around} {E : Value → Shared → Prop} {s : Shared} {I : Addr} {fp wr : List Addr} {n : Nat} {P : Nat → Value → Prop} {St : Nat → Heap → Prop}
theorem collectMap {Q : List Value → Shared → Prop} (W : Walks prog w A.in1 I fp wr n P St) (hT : ∀ i (s : Shared), St i s.heap → s.TypeIs (.ref I) "map") (hst : St 0 s.heap) (hfp : ∀ b ∈ fp, b < s.heap.objs.size) (hI : I ∈ fp)
    (hQ : ∀ (h' : Heap) tk acc, (∀ b o, b ∉ wr → s.heap.get? b = some o → h'.get? b = some o) → ItemsOf P acc n → Q acc.toList { s with heap := h', toks := tk }) (hn : n ≤ sizeLine) : wpAny (model prog w) A (collect (.ref I)) Q E s := by
  have hSf : s.heap.objs.size ∉ fp := fun hm => Nat.lt_irrefl _ (hfp _ hm)
  have hSI : s.heap.objs.size ≠ I := fun e => hSf (e ▸ hI)
  unfold collect
  refine wpAny_bind (wpAny_runValue (codeAny_builtin F.entry_proto_collect ?_))
  rw [Around.under_plainId F.plain_proto_collect _]
  show wpAny _ A.in1 (newList [] >>= fun l => again (.builtin "list.__iadd__" ⟨[l, .ref I], []⟩)) _ _ s
  refine wpAny_bind (wpAny_newObj_type ?_)
  refine wpAny_pure ⟨plainId_quiet F.plain_list_iadd _, codeAny_builtin F.entry_list_iadd ?_⟩
  rw [Around.under_plainId F.plain_list_iadd _]
  have hst₁ := W.frame 0 s.heap (s.heap.push { cls := .type "list", data := .seq ([] : List Value).toArray }) hst fun b _ o e => Heap.get?_push_of_some _ e
  have hTy : Shared.TypeIs { s with heap := s.heap.push { cls := .type "list", data := .seq ([] : List Value).toArray } } (.ref I) "map" := hT 0 _ hst₁
  show wpAny _ A.in1 (Builtin.List.listExtendWith (.ref s.heap.objs.size) (.ref I) (.ref s.heap.objs.size)) _ _ _
  unfold Builtin.List.listExtendWith
  refine wpAny_bind (wpAny_typeOf hTy ?_)
  have h1 : Builtin.List.listSameRef (.ref s.heap.objs.size) (.ref I) = false := by simp [Builtin.List.listSameRef, hSI]
  have h2 : (Value.type "map" == Value.type "list") = false := by decide
  have h3 : (Value.type "map" == Value.type "tuple") = false := by decide
  simp only [h1, h2, h3, Bool.or_false, Bool.false_eq_true, if_false]
  refine wpAny_bind (W.self 0 _ _ _ hst₁ ?_)
  refine wpAny_bind (wpAny_holding ?_)
  unfold Builtin.List.listLengthHint
  refine wpAny_bind (wpAny_specialOf hTy map_no_len ?_)
  show wpAny _ A.in1 (specialOf (Value.ref I) (Str.ofString "__length_hint__") >>= _) _ _ _
  refine wpAny_bind (wpAny_specialOf hTy map_no_hint ?_)
  refine wpAny_pure ?_
  show wpAny _ A.in1 (rule "list.extend.makes-room" >>= fun _ => Builtin.List.listTouch (.ref s.heap.objs.size) >>= fun _ =>
    again (.builtin "list.extend.loop" ⟨[.ref s.heap.objs.size, .ref I, .ref s.heap.objs.size], []⟩)) _ _ _
  refine wpAny_bind (wpAny_rule ?_)
  have hS₁ : (s.heap.push { cls := .type "list", data := .seq ([] : List Value).toArray }).get? s.heap.objs.size = some { cls := .type "list", data := .seq ([] : List Value).toArray } := Heap.get?_push_size _ rfl
  refine wpAny_bind ?_
  show wpAny _ A.in1 (updateSeq s.heap.objs.size (·.push .none) >>= fun _ => updateSeq s.heap.objs.size (·.pop)) _ _ _
  refine wpAny_bind (wpAny_updateSeq hS₁ rfl ?_)
  have hS₂ := Heap.get?_update_self (Obj.mapSeq (·.push Value.none)) hS₁ rfl
  refine wpAny_updateSeq hS₂ rfl ?_
  have hS₃ := Heap.get?_update_self (Obj.mapSeq (·.pop)) hS₂ rfl
  have oth : ∀ b o, b ≠ s.heap.objs.size → (s.heap.push { cls := .type "list", data := .seq ([] : List Value).toArray }).get? b = some o →
      (((s.heap.push { cls := .type "list", data := .seq ([] : List Value).toArray }).update s.heap.objs.size (Obj.mapSeq (·.push Value.none))).update s.heap.objs.size (Obj.mapSeq (·.pop))).get? b = some o :=
    fun b o hb e => (Heap.get?_update_other _ _ (Ne.symm hb)).trans ((Heap.get?_update_other _ _ (Ne.symm hb)).trans e)
  refine wpAny_pure ⟨plainId_quiet F.plain_extend_loop _, extend_loopW W hn _ hSf _ n 0 _ _ _ rfl (Nat.zero_le _)
    (W.frame 0 _ _ hst₁ fun b hb o e => oth b o (fun h => hSf (h ▸ hb)) e) hS₃ (ItemsOf.nil P) fun h' tk acc' c' hm hS' hacc => ?_⟩
  show wpAny _ A (load s.heap.objs.size >>= _) _ _ _
  refine wpAny_bind (wpAny_load hS' ?_)
  refine wpAny_pure (hQ h' tk acc' (fun b o hb e => ?_) hacc)
  have hbs : b ≠ s.heap.objs.size := Nat.ne_of_lt (Heap.lt_size e)
  exact hm b o hbs hb (oth b o hbs (Heap.get?_push_of_some _ e))
theorem code_tuple_map {Q₁ : Value → Shared → Prop} (W : Walks prog w A.in1.in1 I fp wr n P St) (hT : ∀ i (s : Shared), St i s.heap → s.TypeIs (.ref I) "map") (hst : St 0 s.heap) (hfp : ∀ b ∈ fp, b < s.heap.objs.size) (hI : I ∈ fp)
    (h : ∀ (h' : Heap) tk acc, (∀ b o, b ∉ wr → s.heap.get? b = some o → h'.get? b = some o) → ItemsOf P acc n → Q₁ (.ref h'.objs.size) { s with heap := h'.push { cls := .type "tuple", data := .seq acc }, toks := tk }) (hsz : n ≤ sizeLine) :
    codeAny (model prog w) A (.call (.builtin "tuple.__new__") ⟨[.type "tuple", .ref I], []⟩) (wants Q₁ E) s := by
  refine codeAny_of_tree ?_
  show wpAny _ A.in1 (do checkBuiltinCall "tuple.__new__" ⟨[.type "tuple", .ref I], []⟩; again (.builtin "tuple.__new__" ⟨[.type "tuple", .ref I], []⟩)) _ _ s
  refine wpAny_bind (wpAny_of_eq (F.newCall_tuple_1 _) (wpAny_pure ⟨plainId_quiet F.plain_tuple_new _, codeAny_builtin F.entry_tuple_new ?_⟩))
  rw [Around.under_plainId F.plain_tuple_new _]
  have hsub := sub_tuple_self
  have hinit := init_tuple_lookup
  have hmh := madeHere_tuple
  have hTI := hT 0 s hst
  wp_walk using wpAny_typeOf hTI, collectMap (hn := hsz) W hT hst hfp hI
  intro h' tk acc hm hacc
  show wpAny _ _ (Builtin.Tuple.tupleExact acc.toList.toArray >>= fun v => ret v) _ _ _
  unfold Builtin.Tuple.tupleExact
  refine wpAny_bind (wpAny_newObj_type ?_ (by show acc.toList.toArray.size ≤ sizeLine; simp only [Array.toArray_toList]; rw [hacc.1]; exact hsz))
  refine wpAny_pure ?_
  have e : acc.toList.toArray = acc := by simp
  rw [e]
  exact h h' tk acc hm hacc
theorem call_tuple_map {Q : Value → Shared → Prop} (W : Walks prog w A.in1.in1.in1 I fp wr n P St) (hT : ∀ i (s : Shared), St i s.heap → s.TypeIs (.ref I) "map") (hst : St 0 s.heap) (hfp : ∀ b ∈ fp, b < s.heap.objs.size) (hI : I ∈ fp)
    (hQ : ∀ (h' : Heap) tk acc, (∀ b o, b ∉ wr → s.heap.get? b = some o → h'.get? b = some o) → ItemsOf P acc n → Q (.ref h'.objs.size) { s with heap := h'.push { cls := .type "tuple", data := .seq acc }, toks := tk }) (hsz : n ≤ sizeLine) :
    wpAny (model prog w) A (call (.type "tuple") [.ref I]) Q E s := by
  refine callType_codes (Q₁ := fun obj s₁ => s₁.TypeIs obj "tuple" ∧ Q obj s₁) F.called_tuple (F.typeCall_tuple_1 _) F.entry_object_init
    (code_tuple_map (hsz := hsz) W hT hst hfp hI fun h' tk acc hm hacc => ⟨⟨_, Heap.get?_push_size _ rfl, rfl⟩, hQ h' tk acc hm hacc⟩) fun obj s₁ h₁ => ?_
  exact ⟨h₁.1, F.args_object_init_2 obj _, object_init_meets F.called_tuple.init.lookup F.called_tuple.made (by decide) prog w A.in1 _ s₁ ⟨h₁.1, rfl, h₁.2⟩⟩
end
end Mine
end
section
open PySem PySem.W PyProof.Rows
set_option Elab.async false
set_option maxRecDepth 100000
set_option maxHeartbeats 4000000
namespace Mine
theorem spec_kind (w : World) (mean : ExcName → Option Value) (mg mb : Str → Option Value) (x y : Str) (t0 t1 : Tok) :
    CpL 3 w mean mg mb 35 (fun _ => True) [Value.str x t0, Value.str y t1] (fun t => Value.str (Str.ofString "") t) := by
  dsimp only [CpL]
  k_fill
  w_on
  intro dp un gd cn cs a ccd cl outer A₀ base h₀ L m s Q E B F X T hk hpre hd hu hret
  refine wpAny_call ?_
  k_dflt (refine' callP ?k1 ?k2 ?k3 ?k5 ?kA ?kF ?kK ?k6 ?k7 ?k8 ?k9 ?kB ?_ ?c2 ?c3 ?c4 ?c5; (case kA => exact rfl); (case kF => exact rfl); (case kK => assumption); (case k1 => k_asm); (case k2 => k_asm); (case k3 => k_asm); (case k5 => k_asm); (case k6 => k_is); (case k7 => k_is); (case k8 => ktr_room); (case k9 => first | exact BindsTo.of_eq rfl | exact binds_K (by k_in) rfl (by k_is) rfl rfl rfl); (case c5 => decide); (case kB => exact locs rfl); (case c2 => exact rfl); (case c3 => exact rfl); (case c4 => exact rfl); k_whole; intro L' h' F' N' B' X' T'; (try dsimp only); (try k_fold))
  k_steps
  all_goals exact cp_retS (Q := Q) hret (by assumption) rfl
theorem spec_fspath (w : World) (mean : ExcName → Option Value) (mg mb : Str → Option Value) (x y : Str) (t0 t1 : Tok) :
    CpL 5 w mean mg mb 42 (fun _ => True) [Value.str x t0, Value.str y t1] (fun t => Value.str y t) := by
  dsimp only [CpL]
  k_fill
  w_on
  intro dp un gd cn cs a ccd cl outer A₀ base h₀ L m s Q E B F X T hk hpre hd hu hret
  refine wpAny_call ?_
  k_dflt (refine' callP ?k1 ?k2 ?k3 ?k5 ?kA ?kF ?kK ?k6 ?k7 ?k8 ?k9 ?kB ?_ ?c2 ?c3 ?c4 ?c5; (case kA => exact rfl); (case kF => exact rfl); (case kK => assumption); (case k1 => k_asm); (case k2 => k_asm); (case k3 => k_asm); (case k5 => k_asm); (case k6 => k_is); (case k7 => k_is); (case k8 => ktr_room); (case k9 => first | exact BindsTo.of_eq rfl | exact binds_K (by k_in) rfl (by k_is) rfl rfl rfl); (case c5 => decide); (case kB => exact locs rfl); (case c2 => exact rfl); (case c3 => exact rfl); (case c4 => exact rfl); k_whole; intro L' h' F' N' B' X' T'; (try dsimp only); (try k_fold))
  k_steps
  all_goals exact cp_retS (Q := Q) hret (by assumption) rfl
end Mine
end
section
open PySem PySem.W PyProof.Rows
set_option Elab.async false
set_option maxRecDepth 100000
set_option maxHeartbeats 400000
namespace Mine
theorem signs_at {x y : Str} {i : Nat} (h : (signs x)[i]? = some y) : ∃ c, x.cps[i]? = some c ∧ y = ⟨#[c]⟩ := by
  unfold signs at h
  rw [List.getElem?_map] at h
  cases hq : x.cps.toList[i]? with
  | none => rw [hq] at h; cases h
  | some c =>
    rw [hq] at h
    exact ⟨c, by simpa using hq, (Option.some.inj h).symm⟩
def cpl : List Nat → List Nat → Nat
  | x :: xs, y :: ys => if x = y then cpl xs ys + 1 else 0
  | _, _ => 0
theorem cpl_at : ∀ {xs ys : List Nat} {i : Nat} {c d : Nat}, (∀ j, j < i → xs[j]? = ys[j]?) → xs[i]? = some c → ys[i]? = some d → c ≠ d → cpl xs ys = i
  | [], _, i, _, _, _, h1, _, _ => by simp at h1
  | _ :: _, [], i, _, _, _, _, h2, _ => by simp at h2
  | x :: xs, y :: ys, 0, c, d, _, h1, h2, hn => by
    simp at h1 h2
    unfold cpl
    rw [if_neg (by rw [h1, h2]; exact hn)]
  | x :: xs, y :: ys, i + 1, c, d, h, h1, h2, hn => by
    have e : x = y := by simpa using h 0 (by omega)
    unfold cpl
    rw [if_pos e, cpl_at (i := i) (fun j hj => by simpa using h (j + 1) (by omega)) (by simpa using h1) (by simpa using h2) hn]
theorem cpl_all : ∀ {xs ys : List Nat}, (∀ j, j < xs.length → xs[j]? = ys[j]?) → cpl xs ys = xs.length
  | [], ys, _ => by cases ys <;> rfl
  | x :: xs, [], h => by have := h 0 (by simp); simp at this
  | x :: xs, y :: ys, h => by
    have e : x = y := by simpa using h 0 (by simp)
    unfold cpl
    rw [if_pos e, cpl_all fun j hj => by simpa using h (j + 1) (by simpa using hj)]
    rfl
theorem item_at {x : Str} {i : Nat} (h : i < x.length) : Txt.item x (i : Int) = ⟨#[x.cps[i]'h]⟩ := by
  unfold Txt.item Txt.charAt seqIndex?
  have h1 : ¬ (i : Int) < 0 := by omega
  have h2 : (decide ((0 : Int) ≤ (i : Int)) && decide ((i : Int) < (x.length : Int))) = true := by
    simp only [Bool.and_eq_true, decide_eq_true_eq]; omega
  simp only [if_neg h1]
  rw [if_pos h2]
  simp only [Option.bind_some, Int.toNat_natCast]
  rw [Array.getElem?_eq_getElem h]
  rfl
theorem slice_to {x : Str} {i : Nat} (h : i ≤ x.length) : Txt.slice x none (some (i : Int)) = ⟨(x.cps.toList.take i).toArray⟩ := by
  have q := eq_of_beq (slice_closes_to (x := x) (j := (i : Int)) ⟨by omega, by simpa [Str.length] using (by omega : (i : Int) ≤ x.length)⟩)
  rw [q]
  simp
def pfxS (x y : Str) : Str := ⟨(x.cps.toList.take (cpl x.cps.toList y.cps.toList)).toArray⟩
local macro_rules | `(tactic| walk_at "call type:enumerate") => `(tactic| (k_here; refine stopAt ?_))
local macro_rules | `(tactic| walk_at "eval Name") => `(tactic| (k_here; k_dflt (refine' ld ?k1 ?k2 ?_; (case k1 => k_asm); (case k2 => assumption))))
local macro_rules | `(tactic| walk_at "subscriptTail Name Name str int") => `(tactic| (k_here; refine stopAt ?_))
local macro_rules | `(tactic| walk_at "call builtin:min") => `(tactic| (k_here; k_dflt (refine' min3 rfl ?hT ?_; (case hT => exact Heap.IsTuple.at (by assumption) (fun o e => Fr.keep (by assumption) _ _ e))); intro tm hm tkm stm; (rename Fr _ _ _ _ => Fq); (rename News _ _ _ _ => Nq); (replace Fq := frKeep Fq stm); (replace Nq := newsKeep Nq stm); clear stm))
local macro_rules | `(tactic| walk_at "call builtin:max") => `(tactic| (k_here; k_dflt (refine' max3 rfl ?hT ?_; (case hT => exact Heap.IsTuple.at (by assumption) (fun o e => Fr.keep (by assumption) _ _ e))); intro tm hm tkm stm; (rename Fr _ _ _ _ => Fq); (rename News _ _ _ _ => Nq); (replace Fq := frKeep Fq stm); (replace Nq := newsKeep Nq stm); clear stm))
theorem spec_prefix (w : World) (mean : ExcName → Option Value) (mg mb : Str → Option Value) (p : Addr) (a1 b1 c1 : Str) (u1 u2 u3 : Tok) :
    CpL 5 w mean mg mb 49 (fun h => h.IsTuple p #[.str a1 u1, .str b1 u2, .str c1 u3] ∧ (min3S a1 b1 c1).length ≤ 1000 ∧ (max3S a1 b1 c1).length ≤ 1000 ∧ ∀ i, i < (min3S a1 b1 c1).length → (∀ j, j < i → (min3S a1 b1 c1).cps[j]? = (max3S a1 b1 c1).cps[j]?) → i < (max3S a1 b1 c1).length) [Value.ref p] (fun t => Value.str (pfxS (min3S a1 b1 c1) (max3S a1 b1 c1)) t) := by
  dsimp only [CpL]
  k_fill
  w_on
  intro dp un gd cn cs a ccd cl outer A₀ base h₀ L m s Q E B F X T hk hpre hd hu hret
  refine wpAny_call ?_
  k_dflt (refine' callP ?k1 ?k2 ?k3 ?k5 ?kA ?kF ?kK ?k6 ?k7 ?k8 ?k9 ?kB ?_ ?c2 ?c3 ?c4 ?c5; (case kA => exact rfl); (case kF => exact rfl); (case kK => assumption); (case k1 => k_asm); (case k2 => k_asm); (case k3 => k_asm); (case k5 => k_asm); (case k6 => k_is); (case k7 => k_is); (case k8 => ktr_room); (case k9 => first | exact BindsTo.of_eq rfl | exact binds_K (by k_in) rfl (by k_is) rfl rfl rfl); (case c5 => decide); (case kB => exact locs rfl); (case c2 => exact rfl); (case c3 => exact rfl); (case c4 => exact rfl); k_whole; intro L' h' F' N' B' X' T'; (try dsimp only); (try k_fold))
  obtain ⟨hT, hlen1, hlen2, hok⟩ := hpre
  k_steps
  refine Stop.mk ?_
  (rename Fr _ _ _ _ => F2); (rename News _ _ _ _ => N2)
  generalize hs1 : min3S a1 b1 c1 = s1 at *
  generalize hs2 : max3S a1 b1 c1 = s2 at *
  try dsimp only
  refine call_enum_str rfl F2 N2 ?_
  intro h3 e F3 N3 S3
  refine S3 _ rfl _ _ _ _ (fun i m₁ news₁ => (∃ t, m₁ (Str.ofString "s1") = some (.str s1 t)) ∧ (∃ t, m₁ (Str.ofString "s2") = some (.str s2 t)) ∧ news₁ = [] ∧ ∀ j, j < i → s1.cps[j]? = s2.cps[j]?) ⟨⟨_, rfl⟩, ⟨_, rfl⟩, rfl, fun _ h => absurd h (Nat.not_lt_zero _)⟩ ?_ ?_
  · rintro i a9 t9 v9 m₁ news₁ s₁ own ⟨h4, tk4, rfl⟩ hi hv ⟨⟨t4, hm1⟩, ⟨t5, hm2⟩, rfl, hj⟩ ha hown F4 N4
    have F4 : Fr s.heap L' h4 _ := F4
    have N4 : News s.heap L' h4 (own ++ []) := N4
    rw [List.append_nil] at N4
    obtain ⟨t6, rfl⟩ : ∃ t6, v9 = .str a9 t6 := hv
    clear S3 F3 N3 F2 N2
    try dsimp only
    k_steps
    refine Stop.mk ?_
    obtain ⟨c9, hc9, rfl⟩ := signs_at hi
    have hlt1 : i < s1.length := (Array.getElem?_eq_some_iff.mp hc9).1
    have hlt2 : i < s2.length := hok i hlt1 hj
    refine item_str (fitsSsize_of (N := 9223372036854775808) (by omega) (by omega) (Int.le_refl _)) (by omega) (by omega) ?_
    intro hl9
    rw [item_at hlt2]
    k_steps
    · (rename ((_ != _) = true) => hne)
      refine cp_retS (Q := Q) hret (by assumption) ?_
      rw [slice_to (by omega)]
      unfold pfxS
      rw [cpl_at (i := i) (fun j hj' => by simpa using hj j hj') (by simpa using hc9) (by simpa using Array.getElem?_eq_getElem hlt2) (by
        intro e
        rw [e] at hne
        simp at hne)]
    · rename_i j9 hji
      (rename ((_ != _) = false) => heq)
      by_cases hji' : j9 < i
      · exact hj _ hji'
      · have e : j9 = i := by omega
        rw [e, hc9, Array.getElem?_eq_getElem hlt2]
        have q : (⟨#[c9]⟩ : Str) = ⟨#[s2.cps[i]]⟩ := by simpa using heq
        have q' := congrArg (fun z : Str => z.cps[0]?) q
        simpa using q'
  · rintro h4 tk4 m4 news4 F4 N4 ha ⟨⟨t4, hm1⟩, ⟨t5, hm2⟩, rfl, hj⟩
    have F4 : Fr s.heap L' h4 _ := F4
    have N4 : News s.heap L' h4 [] := N4
    clear S3 F3 N3 F2 N2
    try dsimp only
    k_steps
    refine cp_retS (Q := Q) hret (by assumption) ?_
    unfold pfxS
    rw [signs_length] at hj
    rw [cpl_all (fun j hj' => by simpa using hj j (by simpa [Str.length] using hj'))]
    rw [List.take_length]
  
end Mine
end
section
open PySem PySem.W PyProof.Rows
set_option Elab.async false
set_option maxRecDepth 100000
set_option maxHeartbeats 400000
namespace Mine
local macro_rules | `(tactic| walk_at "call ref") => `(tactic| (k_here; (show wpAny _ _ (call (Value.ref 35) _) _ _ _); k_dflt (refine' (spec_kind _ _ _ _ _ _ _ _).use ?k1 ?k2 ?k3 ?k4 ?k5 ?kK ?kp ?kd ?ku ?_; (case k1 => k_asm); (case k2 => k_asm); (case k3 => k_asm); (case k4 => k_asm); (case k5 => k_asm); (case kK => exact rfl); (case kp => trivial); (case kd => ktr_room); (case ku => ktr_units)); intro t9 h9 tk9 F9 N9; (try k_sweep)))
local macro_rules | `(tactic| walk_at "call ref") => `(tactic| (k_here; (show wpAny _ _ (call (Value.ref 42) _) _ _ _); refine stopAt ?_))
local macro_rules | `(tactic| walk_at "call ref") => `(tactic| (k_here; (show wpAny _ _ (call (Value.ref 49) _) _ _ _); refine stopAt ?_))
theorem typeTup {prog : Program} {w : World} {A : Around} {E : Value → Shared → Prop} {s : Shared} {h₀ : Heap} {L p : Addr} {m : Str → Option Value} {its : Array Value} {Q : Value → Shared → Prop}
    (hT : h₀.IsTuple p its) (F : Fr h₀ L s.heap m) (h : Q (.type "tuple") s) : wpAny (model prog w) A (call (.type "type") [.ref p]) Q E s := by
  obtain ⟨o, ho, hc, _⟩ := hT
  exact kto_cont (T := "tuple") ⟨o, F.keep _ _ ho, hc⟩ (by decide +kernel) h
theorem truthyTup {prog : Program} {w : World} {A : Around} {E : Value → Shared → Prop} {s : Shared} {h₀ : Heap} {L p : Addr} {m : Str → Option Value} {a b c : Value} {Q : Bool → Shared → Prop}
    (hT : h₀.IsTuple p #[a, b, c]) (F : Fr h₀ L s.heap m) (h : ∀ tk, Q true { s with toks := tk }) : wpAny (model prog w) A (truthy (.ref p)) Q E s :=
  truthy_tuple (hT.at fun o e => F.keep _ _ e) (by show (3 : Int) < 2 ^ 63; decide) (h _)
local macro_rules | `(tactic| walk_at "call type:type") => `(tactic| (k_here; (with_reducible show wpAny _ _ (call (Value.type "type") [Value.ref _]) _ _ _); k_dflt (refine' typeTup ?a ?b ?_; (case a => assumption); (case b => k_asm))))
local macro_rules | `(tactic| walk_at "truthy ref") => `(tactic| (k_here; k_dflt (refine' truthyTup ?a ?b ?_; (case a => assumption); (case b => k_asm)); intro tkT))
local macro_rules | `(tactic| walk_at "exec For Name Name cons nil") => `(tactic| (k_here; k_dflt (refine' wpAny_For ?_ ?hs; (case hs => (intro _; with_unfolding_all rfl)))))
local macro_rules | `(tactic| walk_at "pyIter ref") => `(tactic| (k_here; refine stopAt ?_))
local macro_rules | `(tactic| walk_at "eval ListComp") => `(tactic| (k_here; refine stopAt ?_))
local macro_rules | `(tactic| walk_at "eval Name") => `(tactic| (k_here; k_dflt (refine' ld ?k1 ?k2 ?_; (case k1 => k_asm); (case k2 => assumption))))
local macro_rules | `(tactic| walk_at "eval Name") => `(tactic| (k_here; (with_reducible show wpAny _ _ (eval (PySem.Expr.Name _ _) (compEnvC _ _ _ _)) _ _ _); k_dflt (refine' LCgL.ld_own ?k1 ?k2 ?k3 ?k4 ?_; (case k1 => k_asm); (case k2 => k_mem); (case k3 => assumption); (case k4 => assumption))))
def strRel (f : Str → Str) (v y : Value) : Prop := ∃ x t t', v = .str x t ∧ y = .str (f x) t'
theorem spec_commonprefix (w : World) (mean : ExcName → Option Value) (mg mb : Str → Option Value) (p : Addr) (a1 b1 c1 : Str) (u1 u2 u3 : Tok) :
    CpL 10 w mean mg mb 54 (fun h => h.IsTuple p #[.str a1 u1, .str b1 u2, .str c1 u3] ∧ (min3S a1 b1 c1).length ≤ 1000 ∧ (max3S a1 b1 c1).length ≤ 1000 ∧ ∀ i, i < (min3S a1 b1 c1).length → (∀ j, j < i → (min3S a1 b1 c1).cps[j]? = (max3S a1 b1 c1).cps[j]?) → i < (max3S a1 b1 c1).length) [Value.ref p] (fun t => Value.str (pfxS (min3S a1 b1 c1) (max3S a1 b1 c1)) t) := by
  dsimp only [CpL]
  k_fill
  w_on
  intro dp un gd cn cs a ccd cl outer A₀ base h₀ L m s Q E B F X T hk hpre hd hu hret
  refine wpAny_call ?_
  k_dflt (refine' callP ?k1 ?k2 ?k3 ?k5 ?kA ?kF ?kK ?k6 ?k7 ?k8 ?k9 ?kB ?_ ?c2 ?c3 ?c4 ?c5; (case kA => exact rfl); (case kF => exact rfl); (case kK => assumption); (case k1 => k_asm); (case k2 => k_asm); (case k3 => k_asm); (case k5 => k_asm); (case k6 => k_is); (case k7 => k_is); (case k8 => ktr_room); (case k9 => first | exact BindsTo.of_eq rfl | exact binds_K (by k_in) rfl (by k_is) rfl rfl rfl); (case c5 => decide); (case kB => exact locs rfl); (case c2 => exact rfl); (case c3 => exact rfl); (case c4 => exact rfl); k_whole; intro L' h' F' N' B' X' T'; (try dsimp only); (try k_fold))
  obtain ⟨hT, hlen1, hlen2, hok⟩ := hpre
  have hIT : IsTup s.heap p #[.str a1 u1, .str b1 u2, .str c1 u3] := hT
  k_steps
  refine Stop.mk ?_
  (rename Fr _ _ _ _ => F2); (rename News _ _ _ _ => N2)
  refine forTupN (items := #[.str a1 u1, .str b1 u2, .str c1 u3]) F2 N2 (fun i m₁ news₁ => m₁ (Str.ofString "m") = some (.ref p) ∧ news₁ = []) ⟨rfl, rfl⟩ ?_ ?_ ?_
  · intro i m' news' h hJ F' N'
    exact hT.at fun o e => F'.keep _ _ e
  · rintro I hI i v m₁ news₁ h₁ tk₁ o hv ⟨hm1, rfl⟩ hnI F5 N5
    obtain ⟨t', rfl⟩ := at3_is hv
    clear F2 N2
    (with_reducible show wpAny _ _ _ _ _ _)
    k_fold
    k_steps
    (rename Fr _ _ _ _ => Fe); (rename News _ _ _ _ => Ne)
    exact Stop.mk ⟨_, _, _, _, rfl, Fe, Ne, hnI, hm1, rfl⟩
  · rintro h4 tk4 m4 news4 F4 N4 ⟨hm1, rfl⟩
    clear F2 N2
    try dsimp only
    k_steps
    refine Stop.mk ?_
    k_dflt (refine wpAny_ListComp_free (fun _ => true) (strRel id) (by rfl) (by decide) (by rfl) (by decide) (by rfl) ?_)
    k_steps
    refine Stop.mk ?_
    (rename Fr _ _ _ _ => F6); (rename News _ _ _ _ => N6)
    refine iterTup rfl (hT.at fun o e => F6.keep _ _ e) F6 N6 ?_
    rintro I s₂ ⟨h7, rfl⟩ W hst hfp hLI hI0 hIn F7 N7 up7 _
    clear F6 N6
    refine compBody (p := fun _ => true) W (by rw [sizeLine_eq]; show 3 ≤ _; omega) hst hfp F7 N7 hLI hI0 hIn (fun _ _ _ _ _ _ _ _ _ _ _ _ _ => testNil) ?_ ?_
    · rintro C oC s₃ m₃ i v E' hv _ hoC hmx F8 N8 hCn
      obtain ⟨t', rfl⟩ := at3_is hv
      clear F7 N7
      obtain ⟨h8, g8, d8, tk8, os8⟩ := s₃
      dsimp only at F8 N8 ⊢
      k_steps
      refine Stop.mk ?_
      refine' (spec_fspath _ _ _ _ _ _ _ _).useK ?k1 ?k2 ?k3 ?k4 ?k5 ?kK ?kp ?kd ?ku ?_
      case k1 => k_asm
      case k2 => k_asm
      case k3 => k_asm
      case k4 => k_asm
      case k5 => k_asm
      case kK => exact rfl
      case kp => trivial
      case kd => ktr_room
      case ku => ktr_units
      intro t9 h9 tk9 st9 F9 N9
      exact Stop.mk ⟨⟨_, _, _, rfl, rfl⟩, _, _, rfl, st9⟩
    · rintro D h' tk ys nD vs hDn hlen hP hF F8 N8 hk
      obtain ⟨y1, y2, y3, rfl, ⟨_, _, w1, e1, rfl⟩, ⟨_, _, w2, e2, rfl⟩, ⟨_, _, w3, e3, rfl⟩⟩ := paired3 hF hlen hP
      cases e1; cases e2; cases e3
      clear F7 N7
      dsimp only [id]
      k_steps
      refine Stop.mk ?_
      (rename Fr _ _ _ _ => F9); (rename News _ _ _ _ => N9)
      refine' (spec_prefix _ _ _ _ _ a1 b1 c1 w1 w2 w3).use ?k1 F9 ?k3 N9 ?k5 ?kK ?kp ?kd ?ku ?_
      case k1 => k_asm
      case k3 => k_asm
      case k5 => k_asm
      case kK => exact rfl
      case kp => exact ⟨⟨_, (N9 _ (List.mem_cons_self ..)).1, rfl, _, rfl⟩, hlen1, hlen2, hok⟩
      case kd => ktr_room
      case ku => ktr_units
      intro t9 h9 tk9 F10 N10
      clear F9 N9
      k_steps
      exact cp_retS (Q := Q) hret (by assumption) rfl
  
end Mine
end
section
open PySem PySem.W PyProof.Rows
set_option Elab.async false
set_option maxRecDepth 100000
set_option maxHeartbeats 2000000
namespace Mine
open PySem PySem.Spec PySem.Calls
section
variable {prog : Program} {w : World} {A : Around} {s : Shared} {K : Frag}
  {R : Result → Shared → Prop} {name qual : Str} {params : Arguments} {body : List Stmt} {scope : Scope} {dV kV doc pm cdv ct oc : Value} {an od : Option Addr} {osl : Array (Option Value)} {f : Addr} {args : Args} {vs : List Value} {g₁ : Addr → Option (List (Str × Value))} {binds : Addr → List (Str × Value)}
theorem peekPush {α : Type} {K : Frag} {M : Model} {A : Around} {E : Value → Shared → Prop} {Q : α → Shared → Prop} {s : Shared} {o : Obj} {r : Addr → α}
    (X : K.In s.heap) (q : Q (r s.heap.objs.size) { s with heap := s.heap.push o }) :
    ∀ (t : Sem α) (g : Addr → Option α), peek1 K ⟨M.prog, M.w.params⟩ t = some (o, g) → (∀ D, g D = some (r D)) → wpAny M A t Q E s := by
  intro t
  induction t with
  | rule _ k ih => intro g e hg Γ p hΓ; exact ih () g e hg Γ p hΓ
  | point _ k ih => intro g e hg Γ p hΓ; exact ih () g e hg Γ p hΓ
  | ask k ih => intro g e hg Γ p hΓ; exact ih _ g e hg Γ p hΓ
  | load a _ k ih =>
    intro g e hg Γ p hΓ
    simp only [peek1] at e
    split at e
    · rename_i ob ho; exact ⟨ob, X _ _ ho, ih ob g e hg Γ p hΓ⟩
    · cases e
  | alloc ob k _ =>
    intro g e hg
    have e : some (ob, fun D => peek K ⟨M.prog, M.w.params⟩ (k D)) = some (o, g) := e
    obtain ⟨e1, e2⟩ := Prod.mk.inj (Option.some.inj e)
    subst e1
    subst e2
    have X' : K.In (s.heap.push ob) := X.keeps fun b x hb => Heap.get?_push_of_some _ hb
    show wpAny M A (alloc ob >>= k) Q E s
    refine wpAny_bind (wpAny_alloc ?_)
    exact (Looks.of_peek (M := M) (h := s.heap.push ob) X' (hg s.heap.objs.size)).here (s := { s with heap := s.heap.push ob }) q
  | _ => intro g e; cases e
/-- a call of a def with a starred parameter and with cells; its ground is the caller's heap -/
theorem callVC (X₀ : K.In s.heap) (hlim : s.heap.NoLimit)
    (ho : K.lookup f = some ⟨oc, od, .func (fnOf name qual params body scope dV kV doc pm an cdv ct), osl⟩) (hcd : codeIn K cdv qual = true) (hroom : A.depth < recursionLimit)
    (hp : peek1 K ⟨prog, w.params⟩ (bindArgs (fnOf name qual params body scope dV kV doc pm an cdv ct) args) = some (({ cls := .type "tuple", data := .seq vs.toArray } : Obj), g₁))
    (hg : ∀ D, g₁ D = some (binds D))
    (hkind : ∀ D n, ∀ x ∈ binds D, scope.names.lookup x.1 = some .local ∨ (scope.names.lookup x.1 = some .cell ∧ ((cellsFrom n scope.names []).lookup x.1).isSome = true))
    (hnd : ((cellsFrom 0 scope.names []).map (·.1)).Nodup)
    (h : ∀ D L' h₁ tk cells, Fr s.heap L' h₁ (bindL (envOfC qual scope L' f cdv).kindOf (binds D) fun _ => none) → News s.heap L' h₁ (cells ++ [(D, ({ cls := .type "tuple", data := .seq vs.toArray } : Obj))]) →
      CellsAre (bindC (envOfC qual scope L' f cdv).kindOf (binds D) fun _ => none) (cellsFrom (L' + 1) scope.names []) cells → D < L' →
      wpAny (model prog w) (A.deeper (envOfC qual scope L' f cdv)) (execs body (envOfC qual scope L' f cdv))
        (fun fl s' => R (.ok (.ret (match fl with | .ret v => v | _ => .none))) s')
        (fun e s' => wpAny (model prog w) (A.deeper (envOfC qual scope L' f cdv)) (leaving (envOfC qual scope L' f cdv) e) (fun _ s'' => R (.error e) s'') (fun e' s'' => R (.error e') s'') s')
        { s with heap := h₁, toks := tk })
    (hco : scope.isCoroutine = false) (hgen : scope.isGenerator = false) (hk : scope.kind = .function) : codeAny (model prog w) A (.call (.ref f) args) R s := by
  refine codeAny_call_function (fd := fnOf name qual params body scope dV kV doc pm an cdv ct) (body := body) hroom (X₀ _ _ ho) rfl hco hgen rfl (codeRec_of X₀ hcd) ?_
  refine peekPush (o := ({ cls := .type "tuple", data := .seq vs.toArray } : Obj)) X₀ ?_ (r := binds) _ g₁ hp hg
  generalize hD : s.heap.objs.size = D
  generalize hh' : s.heap.push ({ cls := .type "tuple", data := .seq vs.toArray } : Obj) = h'
  have up : ∀ b o, s.heap.get? b = some o → h'.get? b = some o := fun b o e => by rw [← hh']; exact Heap.get?_push_of_some _ e
  have hDg : h'.get? D = some ({ cls := .type "tuple", data := .seq vs.toArray } : Obj) := by rw [← hh', ← hD]; exact Heap.get?_push_size _ rfl
  have hsz : h'.objs.size = D + 1 := by rw [← hh', Heap.size_push, hD]
  refine wpAny_newFunctionEnv_cells hk (hkind D _) fun env' he s' x => ?_
  subst he
  refine ⟨(hlim.keeps up).keeps x.toInCall.keep, codeAny_func ?_⟩
  obtain ⟨h₁, tk, rfl, _⟩ := x.done
  have hk₁ : ∀ b o, h'.get? b = some o → h₁.get? b = some o := x.toInCall.keep
  obtain ⟨cells, NC, Y⟩ := Cl.news (h₀ := h') (h := h₁) (L := h'.objs.size) (Nat.le_refl _) fun n c hm => ⟨x.cell n c (lookup_of_mem_nodup (cellsFrom_names scope.names 0 (h'.objs.size + 1) [] [] rfl ▸ hnd) hm), x.above n c hm⟩
  have fresh : ∀ {b : Addr}, D ≤ b → s.heap.get? b = none := fun hb => by
    rw [← hD] at hb
    exact Heap.get?_none_of_le hb
  refine h D h'.objs.size h₁ tk cells ⟨x.toInCall.ns, fun b o e => hk₁ b o (up b o e), by rw [hsz, hD]; exact Nat.le_succ _⟩ (fun p hp => ?_) Y (by rw [hsz]; exact Nat.lt_succ_self _)
  rcases List.mem_append.mp hp with hp | hp
  · refine ⟨(NC p hp).1, (NC p hp).2.1, ?_⟩
    cases q : s.heap.get? p.1 with
    | none => rfl
    | some o => have := up _ _ q; rw [(NC p hp).2.2] at this; cases this
  · rw [List.mem_singleton.mp hp]
    exact ⟨hk₁ _ _ hDg, fun e => by have e' : D = h'.objs.size := e; rw [hsz] at e'; exact absurd e' (Nat.ne_of_lt (Nat.lt_succ_self _)), fresh (Nat.le_refl _)⟩
end
section
variable {prog : Program} {w : World} {A : Around} {E : Value → Shared → Prop} {s : Shared} {h₀ : Heap} {L : Addr} {m : Str → Option Value} {news : List (Addr × Obj)}
theorem newAt {b : Addr} (F : Fr h₀ L s.heap m) (hb : s.heap.get? b = none) : b ≠ L ∧ h₀.get? b = none := by
  refine ⟨fun q => ?_, ?_⟩
  · obtain ⟨oL, _, _, hL, _⟩ := F.ns
    rw [q, hL] at hb; cases hb
  · cases q : h₀.get? b with
    | none => rfl
    | some o => rw [F.keep _ _ q] at hb; cases hb
theorem mem3 {α : Type} {q a b c : α} {l : List α} (h : q ∈ l) : q ∈ a :: b :: c :: l := List.mem_cons_of_mem _ (List.mem_cons_of_mem _ (List.mem_cons_of_mem _ h))
theorem mapL {f : Value} {p : Addr} {items : Array Value} {Q : Value → Shared → Prop} (hT : s.heap.IsTuple p items) (F : Fr h₀ L s.heap m) (N : News h₀ L s.heap news)
    (h : ∀ (M tp I : Addr) h', Fr h₀ L h' m → News h₀ L h' ((M, mapObj tp f) :: (tp, oneTup I) :: (I, tupIt p) :: news) → M ≠ I → tp ≠ I → p ≠ I → (∀ q ∈ news, q.1 ≠ I) → Q (.ref M) { s with heap := h' }) :
    wpAny (model prog w) A (call (.type "map") [f, .ref p]) Q E s := by
  refine call_map hT fun h' hM ht hI' hsz up => ?_
  have fr : ∀ k, s.heap.get? (s.heap.objs.size + k) = none := fun k => Heap.get?_none_of_le (Nat.le_add_right _ _)
  have e2 : @Ne Nat (s.heap.objs.size + 2) s.heap.objs.size := by omega
  have e1 : @Ne Nat (s.heap.objs.size + 1) s.heap.objs.size := by omega
  refine h (s.heap.objs.size + 2) (s.heap.objs.size + 1) s.heap.objs.size h' (frKeep F up) ?_ e2 e1 ?_ ?_
  · intro q hq
    rcases List.mem_cons.mp hq with rfl | hq
    · exact ⟨hM, newAt F (fr 2)⟩
    rcases List.mem_cons.mp hq with rfl | hq
    · exact ⟨ht, newAt F (fr 1)⟩
    rcases List.mem_cons.mp hq with rfl | hq
    · exact ⟨hI', newAt F (fr 0)⟩
    · exact newsKeep N up q hq
  · obtain ⟨o, e, _⟩ := hT
    exact Nat.ne_of_lt (Heap.lt_size e)
  · intro q hq
    exact Nat.ne_of_lt (Heap.lt_size (N q hq).1)
theorem mapWalks {M tp I p : Addr} {f : Value} {items : Array Value} {Fv : Value → Value → Prop} (hh : A.handled = none)
    (F : Fr h₀ L s.heap m) (N : News h₀ L s.heap ((M, mapObj tp f) :: (tp, oneTup I) :: (I, tupIt p) :: news)) (hT : s.heap.IsTuple p items) (hMI : M ≠ I) (htI : tp ≠ I) (hpI : p ≠ I)
    (hf : ∀ (i : Nat) (x : Value) (s₁ : Shared) (Q' : Value → Shared → Prop) (E : Value → Shared → Prop), items[i]? = some x → h₀.StaysIn s₁.heap →
      (∀ v h' tk, Fv x v → s₁.heap.StaysIn h' → Q' v { s₁ with heap := h', toks := tk }) → wpAny (model prog w) A.in1 (call f [x]) Q' E s₁) :
    Walks prog w A M (List.range s.heap.objs.size) [I] items.size (fun i v => ∃ x, items[i]? = some x ∧ Fv x v) (fun i h => h.IsTupleIter I p i ∧ ∀ b o, b ≠ I → s.heap.get? b = some o → h.get? b = some o) := by
  have hI := N (I, tupIt p) (List.mem_cons_of_mem _ (List.mem_cons_of_mem _ (List.mem_cons_self ..)))
  refine walksMap hh (N (M, mapObj tp f) (List.mem_cons_self ..)).1 (N (tp, oneTup I) (List.mem_cons_of_mem _ (List.mem_cons_self ..))).1 hT ⟨_, hI.1⟩ hMI htI hpI fun i x s₁ Q' E hx hk hq => hf i x s₁ Q' E hx (fun b o e => hk b o (fun q => ?_) (F.keep b o e)) hq
  have h2 : h₀.get? I = none := hI.2.2
  rw [q, h2] at e; cases e
theorem mapKeeps {M tp I p : Addr} {f : Value} {h' : Heap} (F : Fr h₀ L s.heap m) (N : News h₀ L s.heap ((M, mapObj tp f) :: (tp, oneTup I) :: (I, tupIt p) :: news)) (hn : ∀ q ∈ news, q.1 ≠ I)
    (hk : ∀ b o, b ∉ [I] → s.heap.get? b = some o → h'.get? b = some o) : Fr h₀ L h' m ∧ News h₀ L h' news := by
  have hI := N (I, tupIt p) (List.mem_cons_of_mem _ (List.mem_cons_of_mem _ (List.mem_cons_self ..)))
  refine ⟨⟨F.ns.at' fun o e => hk _ o (fun q => hI.2.1 (List.mem_singleton.mp q).symm) e, fun b o e => hk b o (fun q => ?_) (F.keep b o e), F.above⟩, fun q hq => ⟨hk _ _ (fun r => hn q hq (List.mem_singleton.mp r)) (N q (mem3 hq)).1, (N q (mem3 hq)).2⟩⟩
  have h2 : h₀.get? I = none := hI.2.2
  rw [List.mem_singleton.mp q, h2] at e; cases e
theorem tupleMapL {M tp I p : Addr} {f : Value} {items : Array Value} {Fv : Value → Value → Prop} {Q : Value → Shared → Prop} (hh : A.handled = none)
    (F : Fr h₀ L s.heap m) (N : News h₀ L s.heap ((M, mapObj tp f) :: (tp, oneTup I) :: (I, tupIt p) :: news)) (hT : s.heap.IsTuple p items) (hMI : M ≠ I) (htI : tp ≠ I) (hpI : p ≠ I) (hn : ∀ q ∈ news, q.1 ≠ I) (hsz : items.size ≤ sizeLine)
    (hf : ∀ (i : Nat) (x : Value) (s₁ : Shared) (Q' : Value → Shared → Prop) (E : Value → Shared → Prop), items[i]? = some x → h₀.StaysIn s₁.heap →
      (∀ v h' tk, Fv x v → s₁.heap.StaysIn h' → Q' v { s₁ with heap := h', toks := tk }) → wpAny (model prog w) A.in1.in1.in1.in1 (call f [x]) Q' E s₁)
    (hQ : ∀ (D : Addr) h' tk acc, Fr h₀ L h' m → News h₀ L h' ((D, tupOf acc 0) :: news) → (∀ q ∈ news, q.1 ≠ D) → acc.size = items.size → (∀ (i : Nat) v, acc[i]? = some v → ∃ x, items[i]? = some x ∧ Fv x v) → Q (.ref D) { s with heap := h', toks := tk }) :
    wpAny (model prog w) A (call (.type "tuple") [.ref M]) Q E s := by
  have hI := N (I, tupIt p) (List.mem_cons_of_mem _ (List.mem_cons_of_mem _ (List.mem_cons_self ..)))
  have hMm := N (M, mapObj tp f) (List.mem_cons_self ..)
  refine call_tuple_map (mapWalks (A := A.in1.in1.in1) hh F N hT hMI htI hpI hf) (fun i s' st => ⟨_, st.2 _ _ hMI hMm.1, rfl⟩) ⟨⟨_, hI.1, rfl, rfl⟩, fun _ _ _ e => e⟩ (fun b hb => List.mem_range.mp hb) (List.mem_range.mpr (Heap.lt_size hMm.1)) (fun h' tk acc hk hacc => ?_) hsz
  obtain ⟨F', N'⟩ := mapKeeps F N hn hk
  refine hQ _ _ tk acc (F'.push _) (fun q hq => ?_) (fun q hq => Nat.ne_of_lt (Heap.lt_size (N' q hq).1)) hacc.1 fun i v hv => hacc.2 i v hv
  rcases List.mem_cons.mp hq with rfl | hq
  · exact ⟨Heap.get?_push_size _ rfl, Ne.symm (Nat.ne_of_lt F'.ns.lt), next_is_new F'⟩
  · exact ⟨Heap.get?_push_of_some _ (N' q hq).1, (N' q hq).2⟩
theorem maxMapL {M tp I p : Addr} {f : Value} {items : Array Value} {Fv : Value → Value → Prop} {val : Nat → Int} {Q : Value → Shared → Prop} (hh : A.handled = none)
    (F : Fr h₀ L s.heap m) (N : News h₀ L s.heap ((M, mapObj tp f) :: (tp, oneTup I) :: (I, tupIt p) :: news)) (hT : s.heap.IsTuple p items) (hMI : M ≠ I) (htI : tp ≠ I) (hpI : p ≠ I) (hn : ∀ q ∈ news, q.1 ≠ I) (hpos : 0 < items.size)
    (hval : ∀ (i : Nat) x v, items[i]? = some x → Fv x v → ∃ t, v = .int (val i) t)
    (hf : ∀ (i : Nat) (x : Value) (s₁ : Shared) (Q' : Value → Shared → Prop) (E : Value → Shared → Prop), items[i]? = some x → h₀.StaysIn s₁.heap →
      (∀ v h' tk, Fv x v → s₁.heap.StaysIn h' → Q' v { s₁ with heap := h', toks := tk }) → wpAny (model prog w) A.in1.in1 (call f [x]) Q' E s₁)
    (hQ : ∀ h' tk t (j : Nat), Fr h₀ L h' m → News h₀ L h' news → j < items.size → (∀ i, i < items.size → val i ≤ val j) → Q (.int (val j) t) { s with heap := h', toks := tk }) :
    wpAny (model prog w) A (call (.builtin "max") [.ref M]) Q E s := by
  have hI := N (I, tupIt p) (List.mem_cons_of_mem _ (List.mem_cons_of_mem _ (List.mem_cons_self ..)))
  have hMm := N (M, mapObj tp f) (List.mem_cons_self ..)
  have W := mapWalks (A := A.in1) hh F N hT hMI htI hpI hf
  have st0 : s.heap.IsTupleIter I p 0 ∧ ∀ b o, b ≠ I → s.heap.get? b = some o → s.heap.get? b = some o := ⟨⟨_, hI.1, rfl, rfl⟩, fun _ _ _ e => e⟩
  have hval' : ∀ i v, (∃ x, items[i]? = some x ∧ Fv x v) → ∃ t, v = .int (val i) t := fun i v ⟨x, hx, hv⟩ => hval i x v hx hv
  refine call_max_walk (W.self 0 _ _ _ st0 ⟨M, _, _, _, _, _, _, rfl, W, st0, (fun b hb => List.mem_range.mp hb), hpos, CmpOf.ints_gt val hval', fun v h' tk hv hk => ?_⟩)
  obtain ⟨t, rfl⟩ := hval' _ v hv
  obtain ⟨F', N'⟩ := mapKeeps F N hn hk
  have hb := argBest_gt val (items.size - 1)
  exact hQ h' tk t _ F' N' (by omega) fun i hi => hb.2 i (by omega)
end
end Mine
end
section
open PySem PySem.W PyProof.Rows
set_option Elab.async false
set_option maxRecDepth 100000
set_option maxHeartbeats 2000000
namespace Mine
open PySem PySem.Spec PySem.Calls
open PyProof.Rows.LCg (NsObj ns_obj)
section
variable {M : Model} {A : Around} {E : Value → Shared → Prop} {s : Shared} {K : Frag} {h₀ : Heap} {L C : Addr} {m m₂ mg mb : Str → Option Value} {news : List (Addr × Obj)} {scope : Scope} {cl : List (Str × Addr)} {code : Value} {bi : Addr} {env : Env} {p : Program} {loose : List Str} {x : Str} {pos : Pos} {v : Value} {oC : Obj} {c : Addr} {o : Obj} {Q : Value → Shared → Prop}
theorem ldGenL (N : News h₀ L s.heap news) (hm : (C, oC) ∈ news) (hC : NsObj oC m₂) (hx : m₂ x = some v) (h : Q v s)
    (hk : (genEnv scope cl C code bi env).scope.kind = .function := by rfl) (hl : (genEnv scope cl C code bi env).kindOf x = some .local := by rfl) (hd : (x == ("__debug__" : Str)) = false := by decide) :
    wpAny M A (eval (.Name x pos) (genEnv scope cl C code bi env)) Q E s := wpAny_Name (wpAny_loadName_local hk hl (hC.ns (N _ hm).1) hx h) hd
theorem ldGenF (N : News h₀ L s.heap news) (hc : cl.lookup x = some c) (hm : (c, o) ∈ news) (hd : o.data = .cell (some v)) (h : Q v s)
    (hk : (genEnv scope cl C code bi env).scope.kind = .function := by rfl) (hx : (genEnv scope cl C code bi env).kindOf x = some .free := by rfl) (hb : (x == ("__debug__" : Str)) = false := by decide) (hn : (x == ("__classdict__" : Str)) = false := by decide) :
    wpAny M A (eval (.Name x pos) (genEnv scope cl C code bi env)) Q E s := wpAny_Name (wpAny_loadName_free hk hx hc ⟨o, N.get hm, hd⟩ h hn) hb
theorem ldGenG (F : Fr h₀ L s.heap m) (X : K.In h₀) (T : TopRead p loose mg mb h₀) (e : nsIn K mainGlobals x = some (some v)) (h : Q v s) (hg : env.globals = mainGlobals := by rfl)
    (hk : (genEnv scope cl C code bi env).scope.kind = .function := by rfl) (hx : (genEnv scope cl C code bi env).kindOf x = some .globalImplicit := by rfl) (hd : (x == ("__debug__" : Str)) = false := by decide) :
    wpAny M A (eval (.Name x pos) (genEnv scope cl C code bi env)) Q E s :=
  Name_function_global hk hx (loadGlobal_global (env := genEnv scope cl C code bi env) (show s.heap.Ns env.globals mg from hg ▸ (T.keeps F.keep).g) (mg_of X T.g e) h) hd
end
section
variable {prog : Program} {w : World} {A : Around} {E : Value → Shared → Prop} {s : Shared} {h₀ : Heap} {c P L : Addr} {m mg : Str → Option Value} {bm : Addr} {ob : Obj} {news : List (Addr × Obj)}
theorem newsRegrown {ps : Array Value} {h : Heap} (B : Based h₀ h₀ c P #[]) (N : News h₀ L h news) : News (regrown h₀ P ps) L h news := fun q hq => ⟨(N q hq).1, (N q hq).2.1, by
  have hne : q.1 ≠ P := fun e => by
    have := (N q hq).2.2
    rw [e, B.tab.2] at this; cases this
  exact (Heap.get?_update_other _ _ (Ne.symm hne)).trans (N q hq).2.2⟩
section
variable {value slice : PySem.Expr} {x : Str} {t : Tok} {Q : Value → Shared → Prop}
theorem slice_strK_sn {i : Int} {ui : Tok} (hF : Fr h₀ L s.heap m) (hN : News h₀ L s.heap news) (h : ∀ h' t' k, Fr h₀ L h' m → News h₀ L h' news → s.heap.StaysIn h' → (Txt.slice x (some i) none).length ≤ x.length → Q (.str (Txt.slice x (some i) none) t') { s with heap := h', toks := k })
    (hs : subscripted slice false (.str x t) (.ref s.heap.objs.size) = operate [.ref s.heap.objs.size, .str x t] (getItem (.str x t) (.ref s.heap.objs.size)) := by with_unfolding_all rfl)
    (ht : ∀ r, letTemporaryGo value (.str x t) r = pure () := by intro _; with_unfolding_all rfl) (hsz : x.length ≤ sizeLine := by size_fits) :
    wpAny (model prog w) A (subscriptTail value slice (.str x t) (.ref s.heap.objs.size)) Q E { s with heap := s.heap.push { cls := .type "slice", data := .fields #[.int i ui, .none, .none] } } :=
  tail_of_ItemOn (SBH.sliceItem_sn (P := fun h => Fr h₀ L h m ∧ News h₀ L h news ∧ s.heap.StaysIn h) (fun _ ob a => ⟨a.1.push ob, a.2.1.pushKeep ob, fun b o e => Heap.get?_push_of_some _ (a.2.2 b o e)⟩) ⟨hF, hN, fun _ _ e => e⟩ (fun h' t' k a => h h' t' k a.1 a.2.1 a.2.2 (Txt.slice_le x _ _)) hsz) hs ht
end
theorem passing_all (n : Nat) : passing (fun _ => true) n 0 = List.range n := by
  unfold passing
  rw [List.drop_zero]
  exact List.filter_eq_self.mpr fun _ _ => rfl
theorem genexpTup {env : Env} {elt iter : PySem.Expr} {x : Str} {px : Pos} {scope : Scope} {cl : List (Str × Addr)} {pos : Pos} {Q : Value → Shared → Prop} {p : Addr} {items : Array Value} {Rel : Value → Value → Prop}
    (F : Fr h₀ L s.heap m) (N : News h₀ L s.heap news) (hp : (p, tupOf items 0) ∈ news) (hg : AllBare s.gens) (hlim : h₀.NoLimit)
    (B : Based h₀ h₀ c P #[]) (M : BMod h₀ env.globals mg bm ob) (hsz : items.size ≤ sizeLine)
    (hcode : env.code = .ref c)
    (hh : A.handled = none) (hco : scope.isCoroutine = false) (hclos : closureFor scope env = pure cl) (hcell : ∀ y ∈ scope.names, y.2 ≠ .cell) (h0 : scope.names.lookup (".0" : Str) = some NameKind.local)
    (hx : scope.names.lookup x = some .local) (hkind : scope.kind = .function) (hroom : A.depth < recursionLimit)
    (hiter : ∀ R, R (.ref p) s → wpAny (model prog w) A (eval iter env) R E s)
    (helt : ∀ (A' : Around) E' (i : Nat) v (C : Addr) (oC : Obj) (s₂ : Shared) m₂ (code : Value) (more : Array Value), A'.handled = none → A'.depth ≤ A.depth + 1 → A'.units ≤ A.units + 8 → items[i]? = some v → NsObj oC m₂ → m₂ x = some v →
      Fr (regrown h₀ P (#[] ++ more)) L s₂.heap m → News (regrown h₀ P (#[] ++ more)) L s₂.heap ((C, oC) :: news) → (∀ q ∈ news, q.1 ≠ C) →
      wpAny (model prog w) A' (eval elt (genEnv scope cl C code builtinsNs env)) (fun y s₃ => Stop (Rel v y ∧ Keeps s₂ s₃)) E' s₂)
    (hQ : ∀ (a : Addr) (s₅ : Shared), (∀ Q' E', (∀ (D : Addr) (s' : Shared) (acc : Array Value), s'.os = s.os → AllBare s'.gens → s'.heap.IsTuple D acc → acc.size = items.size → (∀ (i : Nat) v y, items[i]? = some v → acc[i]? = some y → Rel v y) → h₀.get? D = none →
        (∃ more : Array Value, Heap.ExtBut P h₀ s'.heap ∧ s'.heap.IsCode c P (#[] ++ more) ∧ s'.heap.TableAt c P (#[] ++ more)) → Q' (.ref D) s') → wpAny (model prog w) A (call (.type "tuple") [.ref a]) Q' E' s₅) → Q (.ref a) s₅)
    (hs : ∀ x, genFold iter env x = pure x) :
    wpAny (model prog w) A (eval (.GeneratorExp elt [⟨.Name x px, iter, [], 0⟩] scope pos) env) Q E s := by
  refine wpAny_GeneratorExp_walksQD hh hco hclos hcell h0 hx hkind hroom (hiter _ ?_) hs
  have hTs : s.heap.IsTuple p items := isTuple_news N hp
  obtain ⟨op, hop, hcp, np, hdp⟩ := id hTs
  have hlt : p < s.heap.objs.size := Heap.lt_size hop
  refine wpAny_pyIter_tuple hTs ?_
  obtain ⟨hIL, hI₀, hIn, F₂, N₂⟩ := iterFresh (o := { cls := .type "tuple_iterator", data := .fields #[.ref p, .int 0 0] }) F N
  generalize hh2 : s.heap.push { cls := .type "tuple_iterator", data := .fields #[.ref p, .int 0 0] } = h2 at *
  have hI2 : h2.get? s.heap.objs.size = some { cls := .type "tuple_iterator", data := .fields #[.ref p, .int 0 0] } := by rw [← hh2]; exact Heap.get?_push_size _ rfl
  have hT2 : h2.IsTuple p items := by rw [← hh2]; exact hTs.push _
  have hsz2 : h2.objs.size = s.heap.objs.size + 1 := by rw [← hh2, Heap.size_push]
  generalize hIe : s.heap.objs.size = I at *
  refine ⟨hlim.keeps F₂.keep, wpAny_genexprCodeX hcode (B.codeAt F₂) (B.tabAt F₂) rfl fun c' h₃ tk₃ hx₃ hge hlt₃ hcode₃ _ htab₃ _ => ?_⟩
  have hI3 : s.heap.objs.size = I := hIe
  have hge2 : h2.objs.size ≤ h₃.objs.size := Nat.le_trans hge (Nat.le_of_lt hlt₃)
  obtain ⟨B₃, F₃⟩ := B.grow F₂ hx₃ hcode₃ htab₃
  generalize hmore : (#[rawInt pos.line, rawInt pos.col, Value.ref c'] : Array Value) = more at *
  have M₃ : BMod h₃ env.globals mg bm ob := (M.keeps F₂.keep).extBut (B.tabAt F₂) hx₃
  have hcP : cStatics ≠ P := fun e => B.notStatics e.symm
  have hl₃ : h₃.NoLimit := (hlim.keeps F₂.keep).extBut hx₃ hcP
  have hcs : cStatics ≠ I := fun e => by
    obtain ⟨_, hns, _⟩ := hlim
    obtain ⟨o, es, ep, ho, hd, _⟩ := hns
    rw [e, hI₀] at ho; cases ho
  have nP : ∀ q ∈ news, q.1 ≠ P := fun q hq e => by
    have := (N q hq).2.2
    rw [e, B.tab.2] at this; cases this
  have hIP : I ≠ P := fun e => by rw [e, B.tab.2] at hI₀; cases hI₀
  have N₃ : News h₀ L h₃ news := fun q hq => ⟨hx₃ _ _ (nP q hq) (N₂ q hq).1, (N₂ q hq).2⟩
  have hLlt : L < h2.objs.size := F₂.ns.lt
  have hCg : ∀ {C : Addr}, h₃.objs.size ≤ C → C ≠ L ∧ (regrown h₀ P (#[] ++ more)).get? C = none ∧ ∀ q ∈ news, q.1 ≠ C := fun hC =>
    ⟨fun e => absurd (Nat.lt_of_lt_of_le hLlt (Nat.le_trans hge2 hC)) (by rw [e]; exact Nat.lt_irrefl _), by
      cases e : (regrown h₀ P (#[] ++ more)).get? _ with
      | none => rfl
      | some o => exact absurd (Heap.lt_size (F₃.keep _ _ e)) (Nat.not_lt.mpr hC), fun q hq e => by have := Heap.lt_size (N₃ q hq).1; rw [e] at this; exact absurd this (Nat.not_lt.mpr hC)⟩
  have hrI : (regrown h₀ P (#[] ++ more)).get? I = none := (Heap.get?_update_other _ _ (Ne.symm hIP)).trans hI₀
  have hpI : p ≠ I := Nat.ne_of_lt (hI3 ▸ hlt)
  have hpP : p ≠ P := nP _ hp
  refine wpAny_builtinsFor M₃.ns M₃.name M₃.ne M₃.obj M₃.cls M₃.dict M₃.data ?_
  refine ⟨I, [I, p], [I], items.size, (fun i v => items[i]? = some v), (fun i h => h.IsTupleIter I p i ∧ h.IsTuple p items), (fun _ => true), (fun i y => ∃ v, items[i]? = some v ∧ Rel v y), rfl, (fun A' hA => Walks.tuple hA I p hpI items),
    ⟨⟨_, hx₃ _ _ hIP hI2, rfl, rfl⟩, hT2.at fun o e => hx₃ _ _ hpP e⟩, ?_, hl₃, (fun q => hcs (List.mem_singleton.mp q)), ?_, ?_⟩
  · intro b hb
    refine Nat.lt_of_lt_of_le ?_ hge2
    rw [hsz2]
    rcases List.mem_cons.mp hb with rfl | hb
    · exact Nat.lt_succ_self _
    · rw [List.mem_singleton.mp hb]; exact Nat.lt_succ_of_lt (hI3 ▸ hlt)
  · intro href hhref
    refine ⟨fun A' E' i v s₂ m₂ _ _ _ _ _ _ _ => wpAny_pure ⟨rfl, _, _, rfl, fun _ _ e => e⟩, ?_⟩
    intro A' E' i v s₂ m₂ hA hdp hun hv _ hn hm hk
    have up : ∀ b o, b ≠ I → h₃.get? b = some o → s₂.heap.get? b = some o := fun b o hb e => hk b (List.mem_range.mpr (Heap.lt_size e)) (fun q => hb (List.mem_singleton.mp q)) o (hhref b o e)
    obtain ⟨oC, heC, hoC⟩ := ns_obj hn
    obtain ⟨k1, k2, k3⟩ := hCg (C := h₃.objs.size) (Nat.le_refl _)
    have F₄ : Fr (regrown h₀ P (#[] ++ more)) L s₂.heap m := ⟨F₃.ns.at' fun o e => up _ o hIL e, fun b o e => up b o (fun q => by rw [q, hrI] at e; cases e) (F₃.keep b o e), F₃.above⟩
    have N₄ : News (regrown h₀ P (#[] ++ more)) L s₂.heap ((h₃.objs.size, oC) :: news) := fun q hq => by
      rcases List.mem_cons.mp hq with rfl | hq
      · exact ⟨heC, k1, k2⟩
      · exact ⟨up _ _ (hIn q hq) (N₃ q hq).1, (newsRegrown B N₃ q hq).2⟩
    exact wpAny_mono (helt A' E' i v h₃.objs.size oC s₂ m₂ _ more hA hdp hun hv hoC hm F₄ N₄ k3) (fun y s₃ h => ⟨⟨v, hv, h.out.1⟩, h.out.2⟩) fun _ _ h => h
  · intro a h₅ tk gs hgb hag hsz₅ hk₅ W hat
    refine hQ a _ fun Q' E' hq' => ?_
    have hTy : ∀ i s', GenAt prog w A.in4 a s.gens.size h₃.objs.size (List.range h₃.objs.size) [I] (fun _ => true) items.size (fun i y => ∃ v, items[i]? = some v ∧ Rel v y) i s' → s'.TypeIs (.ref a) "generator" := fun i s' st => st.1.typeIs
    refine call_tuple_gen W.in4_3 hTy hat ?_ (List.mem_cons_self ..) ?_ (by rw [passing_all, List.length_range]; exact hsz)
    · intro b hb
      show b < h₅.objs.size
      rw [hsz₅]
      rcases List.mem_cons.mp hb with rfl | hb
      · exact Nat.lt_succ_self _
      · rcases List.mem_cons.mp hb with rfl | hb
        · exact Nat.lt_succ_of_lt hag
        · exact Nat.lt_succ_of_lt (Nat.lt_trans (List.mem_range.mp hb) hag)
    · intro s' acc hm hacc
      have F₅ : Fr (regrown h₀ P (#[] ++ more)) L h₅ m := F₃.keeps hk₅
      have F₆ : Fr (regrown h₀ P (#[] ++ more)) L s'.heap m := Fr.moved (s := { s with gens := s.gens.push gs, toks := tk, heap := h₅ }) F₅ hm (fun b hb => by
        rcases List.mem_cons.mp hb with rfl | hb
        · exact Nat.lt_of_lt_of_le hLlt hge2
        · rw [List.mem_singleton.mp hb, ← hI3]; exact F.ns.lt)
      have ext : Heap.ExtBut P h₀ s'.heap := fun b o hb e => F₆.keep b o ((Heap.get?_update_other _ _ (Ne.symm hb)).trans e)
      have htb := B₃.tabAt F₆
      refine hq' _ _ acc hm.os (show AllBare s'.gens from AllBare.movedS (s := { s with gens := s.gens.push gs, toks := tk, heap := h₅ }) (s' := s') (hg.push hgb) hm) ⟨_, Heap.get?_push_size _ rfl, rfl, 0, rfl⟩ ?_ ?_ ?_ ⟨more, fun b o hb e => Heap.get?_push_of_some _ (ext b o hb e), B₃.codeAt (F₆.push _), B₃.tabAt (F₆.push _)⟩
      · rw [hacc.1, passing_all, List.length_range]
      · intro i v y hv hy
        obtain ⟨k, hk, v', hv', hr⟩ := hacc.2 i y hy
        rw [passing_all] at hk
        have hki : k = i := by
          obtain ⟨_, e⟩ := List.getElem?_eq_some_iff.mp hk
          simpa using e.symm
        rw [hki, hv] at hv'
        cases hv'
        exact hr
      · cases e : h₀.get? s'.heap.objs.size with
        | none => rfl
        | some o =>
          by_cases hb : s'.heap.objs.size = P
          · have := Heap.lt_size htb.2
            rw [← hb] at this
            exact absurd this (Nat.lt_irrefl _)
          · exact absurd (Heap.lt_size (ext _ _ hb e)) (Nat.lt_irrefl _)
end
end Mine
end
section
open PySem PySem.W PyProof.Rows
set_option Elab.async false
set_option maxRecDepth 100000
set_option maxHeartbeats 1000000
namespace Mine
open PySem PySem.Spec PySem.Calls
local macro_rules | `(tactic| walk_at "call type:map") => `(tactic| (k_here; refine stopAt ?_))
local macro_rules | `(tactic| walk_at "call type:tuple") => `(tactic| (k_here; refine stopAt ?_))
local macro_rules | `(tactic| walk_at "call builtin:max") => `(tactic| (k_here; refine stopAt ?_))
local macro_rules | `(tactic| walk_at "call ref") => `(tactic| (k_here; refine stopAt ?_))
local macro_rules | `(tactic| walk_at "eval GeneratorExp") => `(tactic| (k_here; refine stopAt ?_))
local macro_rules | `(tactic| walk_at "eval Name") => `(tactic| (k_here; (with_reducible show wpAny _ _ (eval (PySem.Expr.Name _ _) (genEnv _ _ _ _ _ _)) _ _ _); k_dflt (first | refine ldGenL (by k_asm) (by k_mem) (by assumption) (by assumption) ?_ | refine ldGenF (by k_asm) (by rfl) (by k_mem) (by assumption) ?_ | refine ldGenG (by k_asm) (by k_asm) (by k_asm) (by k_is) ?_)))
local macro_rules | `(tactic| walk_at "subscriptTail Name Slice str ref") => `(tactic| (k_here; refine stopAt ?_))
def max3N (a b c : Str) : Int := max (a.length : Int) (max (b.length : Int) (c.length : Int))
def valN (a b c : Str) (i : Nat) : Int := ((at3 a b c i).length : Int)
theorem min3S_len {a b c : Str} {n : Nat} (h1 : a.length < n) (h2 : b.length < n) (h3 : c.length < n) : (min3S a b c).length < n := by
  unfold min3S
  split <;> (try split) <;> assumption
theorem max3S_len {a b c : Str} {n : Nat} (h1 : a.length < n) (h2 : b.length < n) (h3 : c.length < n) : (max3S a b c).length < n := by
  unfold max3S
  split <;> (try split) <;> assumption
theorem pfxS_len {x y : Str} : (pfxS x y).length ≤ x.length := by
  unfold pfxS Str.length
  simp only [List.size_toArray, List.length_take, Array.length_toList]
  omega
/-- what _common_shorten_repr makes of one text x among the three -/
def csrOf (r1 r2 r3 x : Str) : Str :=
  if max3N r1 r2 r3 ≤ 80 then x
  else if 5 < 80 - (max3N r1 r2 r3 - ((pfxS (min3S r1 r2 r3) (max3S r1 r2 r3)).length : Int) + 5 + 12) then
    shortOf (pfxS (min3S r1 r2 r3) (max3S r1 r2 r3)) 5 (80 - (max3N r1 r2 r3 - ((pfxS (min3S r1 r2 r3) (max3S r1 r2 r3)).length : Int) + 5 + 12)) ++ Txt.slice x (some ((pfxS (min3S r1 r2 r3) (max3S r1 r2 r3)).length : Int)) none
  else shortOf (pfxS (min3S r1 r2 r3) (max3S r1 r2 r3)) 5 5 ++ shortOf (Txt.slice x (some ((pfxS (min3S r1 r2 r3) (max3S r1 r2 r3)).length : Int)) none) 41 5
/-- what of the caller's heap stands behind the call -/
def CsrHeap (P : Addr) (h h' : Heap) : Prop := h.StaysIn h' ∨ ∃ more : Array Value, Heap.ExtBut P h h' ∧ h'.IsCode 60 P (#[] ++ more) ∧ h'.TableAt 60 P (#[] ++ more)
theorem shortOf_len {x : Str} {p q : Int} (hp : 0 ≤ p) (hq : 0 ≤ q) (h : x.length < 1000) : (shortOf x p q).length ≤ 4000 := by
  unfold shortOf
  split
  · have h1 : (Txt.slice x none (some p)).length ≤ x.length := Txt.slice_le x _ _
    have h2 : (Txt.slice x (some ((x.length : Int) - q)) none).length ≤ x.length := Txt.slice_le x _ _
    have h3 := len_str_of_int ((x.length : Int) - p - q)
    have e1 : (Str.ofString "[").length = 1 := by decide
    have e2 : (Str.ofString " chars]").length = 7 := by decide
    simp only [Str.length_append]
    omega
  · omega
theorem k_classed (P : Params) : kb_classed (hd.heap_39 P) = true := by rfl
theorem acc3' {a b c : Str} {t u v : Tok} {g : Str → Str} {acc : Array Value} (hs : acc.size = (#[Value.str a t, .str b u, .str c v] : Array Value).size) (h : ∀ (i : Nat) x y, (#[Value.str a t, .str b u, .str c v] : Array Value)[i]? = some x → acc[i]? = some y → strRel g x y) :
    ∃ t' u' v', acc = #[.str (g a) t', .str (g b) u', .str (g c) v'] := by
  obtain ⟨x, y, z, rfl⟩ := arr3 hs
  obtain ⟨_, _, t', q0, rfl⟩ := h 0 _ x rfl rfl
  obtain ⟨_, _, u', q1, rfl⟩ := h 1 _ y rfl rfl
  obtain ⟨_, _, v', q2, rfl⟩ := h 2 _ z rfl rfl
  cases q0
  cases q1
  cases q2
  exact ⟨t', u', v', rfl⟩
theorem max3_is {a b c : Str} {j : Nat} (hj : j < 3) (h : ∀ i, i < 3 → valN a b c i ≤ valN a b c j) : valN a b c j = max3N a b c := by
  have h0 := h 0 (by decide)
  have h1 := h 1 (by decide)
  have h2 := h 2 (by decide)
  unfold max3N
  unfold valN at *
  match j, hj with
  | 0, _ => simp only [at3] at *; omega
  | 1, _ => simp only [at3] at *; omega
  | 2, _ => simp only [at3] at *; omega
theorem at3_some {a b c : Str} {t u v : Tok} {i : Nat} {x : Value} (h : (#[Value.str a t, .str b u, .str c v] : Array Value)[i]? = some x) : ∃ t', x = .str (at3 a b c i) t' ∧ i < 3 := by
  obtain ⟨t', e⟩ := at3_is h
  exact ⟨t', e, (Array.getElem?_eq_some_iff.mp h).1⟩
theorem acc3 {a b c : Str} {t u v : Tok} {g : Str → Str} {acc : Array Value} (hs : acc.size = (#[Value.str a t, .str b u, .str c v] : Array Value).size) (h : ∀ (i : Nat) y, acc[i]? = some y → ∃ x, (#[Value.str a t, .str b u, .str c v] : Array Value)[i]? = some x ∧ strRel g x y) :
    ∃ t' u' v', acc = #[.str (g a) t', .str (g b) u', .str (g c) v'] := by
  obtain ⟨x, y, z, rfl⟩ := arr3 hs
  obtain ⟨_, e0, _, _, t', q0, rfl⟩ := h 0 x rfl
  obtain ⟨_, e1, _, _, u', q1, rfl⟩ := h 1 y rfl
  obtain ⟨_, e2, _, _, v', q2, rfl⟩ := h 2 z rfl
  cases Option.some.inj e0
  cases Option.some.inj e1
  cases Option.some.inj e2
  cases q0
  cases q1
  cases q2
  exact ⟨t', u', v', rfl⟩
theorem spec_csr (w : World) (mean : ExcName → Option Value) (mg mb : Str → Option Value) (P : Addr) (a1 b1 c1 : Str) (u1 u2 u3 : Tok) :
    ∀ (dp un : Nat) (gd : Option (List Code)) (cn : Str) (cs : Scope) (a : Addr) (ccd : Value) (cl : List (Str × Addr)) (outer : List Env) (A₀ : Around) (base h₀ : Heap) (L : Addr) (m : Str → Option Value) (s : Shared) (Q E : Value → Shared → Prop),
    Below A₀ base outer h₀ → Fr h₀ L s.heap m → (hd.heap_39 w.params).In h₀ → Top hd.view_39 (looseW hd.view_39 [Str.ofString "_MIN_DIFF_LEN", Str.ofString "safe_repr", Str.ofString "COMPILER_FLAG_NAMES", Str.ofString "_filemode_table"]) mean mg mb h₀ → cs.kind = .function →
    AllBare s.gens → Based h₀ h₀ 60 P #[] → (∀ i, i < (min3S (reprText a1) (reprText b1) (reprText c1)).length → (∀ j, j < i → (min3S (reprText a1) (reprText b1) (reprText c1)).cps[j]? = (max3S (reprText a1) (reprText b1) (reprText c1)).cps[j]?) → i < (max3S (reprText a1) (reprText b1) (reprText c1)).length) → (reprText a1).length < 1000 → (reprText b1).length < 1000 → (reprText c1).length < 1000 → dp + 20 < recursionLimit → un + 10 * 20 < cLine →
    (∀ (D : Addr) (s' : Shared) (t1 t2 t3 : Tok), s'.os = s.os → AllBare s'.gens → s'.heap.IsTuple D #[.str (csrOf (reprText a1) (reprText b1) (reprText c1) (reprText a1)) t1, .str (csrOf (reprText a1) (reprText b1) (reprText c1) (reprText b1)) t2, .str (csrOf (reprText a1) (reprText b1) (reprText c1) (reprText c1)) t3] →
      s.heap.get? D = none → CsrHeap P s.heap s'.heap → Q (.ref D) s') →
      wpAny (model Challenge.rw_om0040_01.row.prog w) (ktrTop dp un gd cn cs L a ccd cl outer) (call (.ref 61) [Value.str a1 u1, Value.str b1 u2, Value.str c1 u3]) Q E s := by
  k_fill
  w_on
  intro dp un gd cn cs a ccd cl outer A₀ base h₀ L m s Q E B F X T hk hg BS hok hl1 hl2 hl3 hd9 hu hret
  have X0 : (hd.heap_39 w.params).In s.heap := X.keeps F.keep
  have T0 : Top hd.view_39 (looseW hd.view_39 [Str.ofString "_MIN_DIFF_LEN", Str.ofString "safe_repr", Str.ofString "COMPILER_FLAG_NAMES", Str.ofString "_filemode_table"]) mean mg mb s.heap := T.keeps F.keep
  have B0 : Below (ktrTop dp un gd cn cs L a ccd cl outer) base (envX cn cs L a ccd cl :: outer) s.heap := (groundX (R := fun _ _ => True) (env := envX cn cs L a ccd cl) B F (News.nil (L := L)) rfl rfl hk).2.1
  have BS0 : Based s.heap s.heap 60 P #[] := Based.start (BS.codeAt F) (BS.tabAt F) BS.notStatics
  clear F X T B BS
  refine wpAny_call ?_
  k_dflt (refine' callVC (vs := [Value.str a1 u1, Value.str b1 u2, Value.str c1 u3]) ?k3 ?kl ?k6 ?k7 ?k8 ?kP ?kG ?kB ?kN ?_ ?c2 ?c3 ?c4; (case k3 => k_asm); (case kl => exact T0.nolimit); (case k6 => k_is); (case k7 => k_is); (case k8 => ktr_room); (case kP => exact rfl); (case kG => exact fun _ => rfl); (case kN => decide); (case kB => exact fun D n => kinds_of (by kinds_ok)); (case c2 => exact rfl); (case c3 => exact rfl); (case c4 => exact rfl); k_whole)
  intro D L' h' tk' cells F' N' Y hDL
  obtain ⟨o1, o0, he, ho1, ho0⟩ := CellsAre.two Y
  subst he
  clear Y
  replace ho1 : o1.data = .cell none := ho1
  replace ho0 : o0.data = .cell none := ho0
  replace F' : Fr s.heap L' h' (fun y => if y = Str.ofString "args" then some (Value.ref D) else none) := F'
  replace N' : News s.heap L' h' [(L' + 1 + 1, o1), (L' + 1, o0), (D, ({ cls := .type "tuple", data := .seq #[Value.str a1 u1, Value.str b1 u2, Value.str c1 u3] } : Obj))] := N'
  have eN : @LT.lt Nat _ D L' := hDL
  (with_reducible show wpAny _ _ _ _ _ _)
  k_fold
  k_steps
  refine Stop.mk ?_
  refine mapL (items := #[Value.str a1 u1, Value.str b1 u2, Value.str c1 u3]) ⟨_, (N' (D, _) (List.mem_cons_of_mem _ (List.mem_cons_of_mem _ (List.mem_cons_self ..)))).1, rfl, _, rfl⟩ F' N' ?_
  intro M1 tp1 I1 h2 F2 N2 hMI htI hpI hnI
  k_steps
  refine Stop.mk ?_
  refine tupleMapL (Fv := strRel reprText) rfl F2 N2 ⟨_, (N2 (D, _) (mem3 (List.mem_cons_of_mem _ (List.mem_cons_of_mem _ (List.mem_cons_self ..))))).1, rfl, _, rfl⟩ hMI htI hpI hnI (by rw [sizeLine_eq]; show 3 ≤ _; omega) ?_ ?_
  · intro i x s₁ Q' E' hx st hq
    obtain ⟨t', rfl⟩ := at3_is hx
    refine spec_safe_reprA w mg mb _ _ _ _ _ _ s₁ Q' E' (X0.keeps st) ((topRead_of T0).keeps st) ?_ ?_ ?_ ?_
    · have q : (reprText (at3 a1 b1 c1 i)).length < 1000 := by
        match i, hx with
        | 0, _ => exact hl1
        | 1, _ => exact hl2
        | 2, _ => exact hl3
      rw [sizeLine_eq]; omega
    · ktr_room
    · ktr_units
    · intro t h9 tk9 st9
      exact hq _ _ _ ⟨_, _, _, rfl, rfl⟩ st9
  intro D2 h3 tk3 acc F3 N3 hD2 hsz hacc
  obtain ⟨v1, v2, v3, rfl⟩ := acc3 hsz hacc
  clear F2 N2 F' N' hacc hsz hnI hpI
  generalize reprText a1 = r1 at *
  generalize reprText b1 = r2 at *
  generalize reprText c1 = r3 at *
  have eD1 : @Ne Nat (L' + 1 + 1) D2 := hD2 _ (List.mem_cons_self ..)
  have eD2 : @Ne Nat (L' + 1) D2 := hD2 _ (List.mem_cons_of_mem _ (List.mem_cons_self ..))
  clear hD2
  dsimp only
  k_steps
  refine Stop.mk ?_
  (rename Fr _ _ _ _ => F4); (rename News _ _ _ _ => N4)
  replace N4 : News s.heap L' _ [(D2, tupOf #[.str r1 v1, .str r2 v2, .str r3 v3] 0), (L' + 1 + 1, o1), (L' + 1, o0)] := fun q hq => N4 q (by
    simp only [List.mem_cons, List.not_mem_nil, or_false] at hq ⊢
    rcases hq with hq | hq | hq <;> simp [hq])
  refine mapL (items := #[.str r1 v1, .str r2 v2, .str r3 v3]) ⟨_, (N4 (D2, _) (List.mem_cons_self ..)).1, rfl, _, rfl⟩ F4 N4 ?_
  intro M2 tp2 I2 h5 F5 N5 hMI2 htI2 hpI2 hnI2
  clear F4 N4
  k_steps
  refine Stop.mk ?_
  refine maxMapL (Fv := fun x v => ∃ y t t', x = .str y t ∧ v = .int (y.length : Int) t') (val := valN r1 r2 r3) rfl F5 N5 ⟨_, (N5 (D2, _) (mem3 (List.mem_cons_self ..))).1, rfl, _, rfl⟩ hMI2 htI2 hpI2 hnI2 (by show 0 < 3; decide) ?_ ?_ ?_
  · rintro i x v hx ⟨y, t, t', rfl, rfl⟩
    obtain ⟨t2, e⟩ := at3_is hx
    cases e
    exact ⟨t', rfl⟩
  · intro i x s₁ Q' E' hx st hq
    obtain ⟨t', rfl⟩ := at3_is hx
    have q : (at3 r1 r2 r3 i).length < 1000 := by
      match i, hx with
      | 0, _ => exact hl1
      | 1, _ => exact hl2
      | 2, _ => exact hl3
    exact len_str (by omega) (hq _ _ _ ⟨_, _, _, rfl, rfl⟩ fun _ _ e => e)
  intro h6 tk6 t6 j F6 N6 hj hmax
  rw [max3_is hj hmax]
  have hM1 : max3N r1 r2 r3 < 1000 := by unfold max3N; omega
  have hM0 : 0 ≤ max3N r1 r2 r3 := by unfold max3N; omega
  generalize hMe : max3N r1 r2 r3 = mx at *
  clear F5 N5 hmax hj hnI2
  dsimp only
  k_steps
  · (rename Fr _ _ _ _ => F7); (rename News _ _ _ _ => N7)
    have hle : max3N r1 r2 r3 ≤ 80 := by rw [hMe]; assumption
    have hc : ∀ x, csrOf r1 r2 r3 x = x := fun x => by unfold csrOf; rw [if_pos hle]
    refine hret D2 _ v1 v2 v3 rfl hg ?_ (N7 (D2, _) (List.mem_cons_self ..)).2.2 (.inl F7.keep)
    rw [hc, hc, hc]
    exact isTuple_news N7 (List.mem_cons_self ..)
  refine Stop.mk ?_
  (rename Fr _ _ _ _ => F7); (rename News _ _ _ _ => N7)
  refine' (spec_commonprefix _ _ _ _ _ r1 r2 r3 v1 v2 v3).use ?k1 F7 ?k3 N7 ?k5 ?kK ?kp ?kd ?ku ?_
  case k1 => k_asm
  case k3 => k_asm
  case k5 => k_asm
  case kK => exact rfl
  case kp => exact ⟨⟨_, (N7 (D2, _) (List.mem_cons_self ..)).1, rfl, _, rfl⟩, Nat.le_of_lt (min3S_len hl1 hl2 hl3), Nat.le_of_lt (max3S_len hl1 hl2 hl3), hok⟩
  case kd => ktr_room
  case ku => ktr_units
  intro t8 h8 tk8 F8 N8
  have hpl : (pfxS (min3S r1 r2 r3) (max3S r1 r2 r3)).length < 1000 := Nat.lt_of_le_of_lt pfxS_len (min3S_len hl1 hl2 hl3)
  generalize hpf : pfxS (min3S r1 r2 r3) (max3S r1 r2 r3) = pf at *
  clear F7 N7
  have hgt : ¬ max3N r1 r2 r3 ≤ 80 := by rw [hMe]; assumption
  dsimp only
  k_steps
  all_goals (refine Stop.mk ?_)
  all_goals ((rename Fr _ _ _ _ => F9); (rename News _ _ _ _ => N9))
  · (rename (5 < _) => hcl)
    refine' (spec_shorten _ _ _ _ _ _ _ _ _ _).use ?k1 F9 ?k3 N9 ?k5 ?kK ?kp ?kd ?ku ?_
    case k1 => k_asm
    case k3 => k_asm
    case k5 => k_asm
    case kK => exact rfl
    case kp => exact ⟨by decide, by omega, by decide, by omega, hpl⟩
    case kd => ktr_room
    case ku => ktr_units
    intro t10 h10 tk10 F10 N10
    clear F9 N9
    have hsp1 : (shortOf pf 5 (80 - (mx - (pf.length : Int) + 5 + 12))).length ≤ 4000 := shortOf_len (by decide) (by omega) hpl
    generalize hsp : shortOf pf 5 (80 - (mx - (pf.length : Int) + 5 + 12)) = sp at *
    dsimp only
    k_steps
    refine Stop.mk ?_
    (rename Fr _ _ _ _ => F11); (rename News _ _ _ _ => N11)
    obtain ⟨bm, ob, MB⟩ := bmod_of_top T0
    k_dflt (refine' genexpTup (items := #[.str r1 v1, .str r2 v2, .str r3 v3]) (Rel := strRel (fun x => sp ++ Txt.slice x (some (pf.length : Int)) none)) F11 N11 (List.mem_cons_self ..) hg T0.nolimit BS0 MB ?sz ?code ?hh ?hco ?hclos ?hcell ?h0 ?hx ?hkind ?hroom ?hiter ?helt ?hQ ?hs)
    case sz => (rw [sizeLine_eq]; show 3 ≤ _; omega)
    case code => exact rfl
    case hh => exact rfl
    case hco => exact rfl
    case hclos => exact rfl
    case hcell => decide
    case h0 => exact rfl
    case hx => exact rfl
    case hkind => exact rfl
    case hroom => ktr_room
    case hiter => (intro R hR; exact nameX_L F11 rfl hR)
    case hs => (intro _; with_unfolding_all rfl)
    case helt =>
      intro A' E' i v C oC s₂ m₂ code more hA hdp hun hv hoC hmx F12 N12 hCn
      obtain ⟨t', rfl, hi3⟩ := at3_some hv
      have X12 : (hd.heap_39 w.params).In (regrown s.heap P (#[] ++ more)) := kb_in_regrown BS0 X0 T0.g (k_classed _)
      have T12 := LGe.top_regrown F12 (topRead_of T0) BS0
      generalize regrown s.heap P (#[] ++ more) = hR at *
      obtain ⟨hA', dA, fA, gA, uA⟩ := A'
      have hA2 : hA' = none := hA
      subst hA2
      obtain ⟨h12, g12, d12, tk12, os12⟩ := s₂
      have hlx : (at3 r1 r2 r3 i).length < 1000 := by
        match i, hi3 with
        | 0, _ => exact hl1
        | 1, _ => exact hl2
        | 2, _ => exact hl3
      generalize at3 r1 r2 r3 i = xx at *
      clear F11 N11
      dsimp only at F12 N12 hdp hun ⊢
      k_steps
      refine Stop.mk ?_
      (rename Fr _ _ _ _ => F13); (rename News _ _ _ _ => N13)
      refine slice_strK_sn (hsz := ?hsz) (s := ⟨_, _, _, _, _⟩) F13 N13 ?_
      case hsz => (rw [sizeLine_eq]; omega)
      intro h14 t14 k14 F14 N14 st14 hsl14
      clear F13 N13
      k_steps
      exact Stop.mk ⟨⟨_, _, _, rfl, rfl⟩, _, _, rfl, st14⟩
    case hQ =>
      intro a5 s5 ht5
      show wpAny _ _ (spliced []) _ _ _
      rw [spliced]
      refine wpAny_pure (ht5 _ _ ?_)
      intro D6 s6 acc6 hos hgb hT6 hsz6 hacc6 hD6 hext
      obtain ⟨w1, w2, w3, rfl⟩ := acc3' hsz6 hacc6
      refine hret D6 s6 w1 w2 w3 hos hgb ?_ hD6 (.inr hext)
      have hc : ∀ x, csrOf r1 r2 r3 x = sp ++ Txt.slice x (some (pf.length : Int)) none := fun x => by unfold csrOf; rw [hMe, hpf]; rw [hMe] at hgt; rw [if_neg hgt, if_pos hcl, hsp]
      rw [hc, hc, hc]
      exact hT6
  · (rename (¬ 5 < _) => hcl)
    refine' (spec_shorten _ _ _ _ _ _ _ _ _ _).use ?k1 F9 ?k3 N9 ?k5 ?kK ?kp ?kd ?ku ?_
    case k1 => k_asm
    case k3 => k_asm
    case k5 => k_asm
    case kK => exact rfl
    case kp => exact ⟨by decide, by decide, by decide, by decide, hpl⟩
    case kd => ktr_room
    case ku => ktr_units
    intro t10 h10 tk10 F10 N10
    clear F9 N9
    have hsp1 : (shortOf pf 5 5).length ≤ 4000 := shortOf_len (by decide) (by decide) hpl
    generalize hsp : shortOf pf 5 5 = sp at *
    dsimp only
    k_steps
    refine Stop.mk ?_
    (rename Fr _ _ _ _ => F11); (rename News _ _ _ _ => N11)
    obtain ⟨bm, ob, MB⟩ := bmod_of_top T0
    k_dflt (refine' genexpTup (items := #[.str r1 v1, .str r2 v2, .str r3 v3]) (Rel := strRel (fun x => sp ++ shortOf (Txt.slice x (some (pf.length : Int)) none) 41 5)) F11 N11 (List.mem_cons_self ..) hg T0.nolimit BS0 MB ?sz ?code ?hh ?hco ?hclos ?hcell ?h0 ?hx ?hkind ?hroom ?hiter ?helt ?hQ ?hs)
    case sz => (rw [sizeLine_eq]; show 3 ≤ _; omega)
    case code => exact rfl
    case hh => exact rfl
    case hco => exact rfl
    case hclos => exact rfl
    case hcell => decide
    case h0 => exact rfl
    case hx => exact rfl
    case hkind => exact rfl
    case hroom => ktr_room
    case hiter => (intro R hR; exact nameX_L F11 rfl hR)
    case hs => (intro _; with_unfolding_all rfl)
    case helt =>
      intro A' E' i v C oC s₂ m₂ code more hA hdp hun hv hoC hmx F12 N12 hCn
      obtain ⟨t', rfl, hi3⟩ := at3_some hv
      have X12 : (hd.heap_39 w.params).In (regrown s.heap P (#[] ++ more)) := kb_in_regrown BS0 X0 T0.g (k_classed _)
      have T12 := LGe.top_regrown F12 (topRead_of T0) BS0
      generalize regrown s.heap P (#[] ++ more) = hR at *
      obtain ⟨hA', dA, fA, gA, uA⟩ := A'
      have hA2 : hA' = none := hA
      subst hA2
      obtain ⟨h12, g12, d12, tk12, os12⟩ := s₂
      have hlx : (at3 r1 r2 r3 i).length < 1000 := by
        match i, hi3 with
        | 0, _ => exact hl1
        | 1, _ => exact hl2
        | 2, _ => exact hl3
      generalize at3 r1 r2 r3 i = xx at *
      clear F11 N11
      dsimp only at F12 N12 hdp hun ⊢
      k_steps
      refine Stop.mk ?_
      (rename Fr _ _ _ _ => F13); (rename News _ _ _ _ => N13)
      refine slice_strK_sn (hsz := ?hsz) (s := ⟨_, _, _, _, _⟩) F13 N13 ?_
      case hsz => (rw [sizeLine_eq]; omega)
      intro h14 t14 k14 F14 N14 st14 hsl14
      clear F13 N13
      have hsl15 : (shortOf (Txt.slice xx (some (pf.length : Int)) none) 41 5).length ≤ 4000 := shortOf_len (by decide) (by decide) (by omega)
      k_steps
      refine Stop.mk ?_
      refine spec_shortenA w mg mb _ _ _ _ _ _ _ _ _ _ _ _ _ (X12.keeps F14.keep) (T12.keeps F14.keep) ⟨by decide, by decide, by decide, by decide, by omega⟩ ?_ ?_ ?_
      · ktr_room
      · ktr_units
      intro t15 h15 tk15 st15
      replace F14 := frKeep F14 st15
      replace N14 := newsKeep N14 st15
      generalize hss : shortOf (Txt.slice xx (some (pf.length : Int)) none) 41 5 = ss at *
      dsimp only
      k_steps
      exact Stop.mk ⟨⟨xx, t', _, rfl, by dsimp only; rw [hss]⟩, _, _, rfl, fun b o e => st15 b o (st14 b o e)⟩
    case hQ =>
      intro a5 s5 ht5
      show wpAny _ _ (spliced []) _ _ _
      rw [spliced]
      refine wpAny_pure (ht5 _ _ ?_)
      intro D6 s6 acc6 hos hgb hT6 hsz6 hacc6 hD6 hext
      obtain ⟨w1, w2, w3, rfl⟩ := acc3' hsz6 hacc6
      refine hret D6 s6 w1 w2 w3 hos hgb ?_ hD6 (.inr hext)
      have hc : ∀ x, csrOf r1 r2 r3 x = sp ++ shortOf (Txt.slice x (some (pf.length : Int)) none) 41 5 := fun x => by unfold csrOf; rw [hMe, hpf]; rw [hMe] at hgt; rw [if_neg hgt, if_neg hcl, hsp]
      rw [hc, hc, hc]
      exact hT6
end Mine
end
section
open PySem PySem.W PyProof.Rows
set_option Elab.async false
set_option maxRecDepth 100000
set_option maxHeartbeats 4000000
namespace Mine
local macro_rules | `(tactic| k_all) => `(tactic| assumption)
theorem fmPick_miss {idx x : Int} {es : List Ent} {k : Nat} {e : Ent} (he : es[k]? = some e) (hm : fmHit idx x e.bit = false) : fmPick idx x ((es.drop k).map Ent.pair) = fmPick idx x ((es.drop (k + 1)).map Ent.pair) := by
  obtain ⟨hk, rfl⟩ := List.getElem?_eq_some_iff.mp he
  rw [List.drop_eq_getElem_cons hk]
  show (if fmHit idx x es[k].bit = true then _ else _) = _
  rw [hm]
  rfl
theorem fmPick_hit {idx x : Int} {es : List Ent} {k : Nat} {e : Ent} (he : es[k]? = some e) (hm : fmHit idx x e.bit = true) : fmPick idx x ((es.drop k).map Ent.pair) = e.sign := by
  obtain ⟨hk, rfl⟩ := List.getElem?_eq_some_iff.mp he
  rw [List.drop_eq_getElem_cons hk]
  show (if fmHit idx x es[k].bit = true then _ else _) = _
  rw [hm]
  rfl
theorem fmHit_0 {idx x b : Int} (h0 : idx = 0) : fmHit idx x b = decide (Builtin.bitAnd x 61440 = b) := by unfold fmHit; rw [if_pos h0]
theorem fmHit_n {idx x b : Int} (h0 : idx ≠ 0) : fmHit idx x b = decide (Builtin.bitAnd x b = b) := by unfold fmHit; rw [if_neg h0]
theorem fmPick_end {idx x : Int} {es : List Ent} {k : Nat} (hk : es.length ≤ k) : fmPick idx x ((es.drop k).map Ent.pair) = if idx = 0 then Str.ofString "?" else Str.ofString "-" := by
  rw [List.drop_eq_nil_of_le hk]
  rfl
theorem fmTab_at {i : Nat} {r : Addr × List Ent} (h : fmEnts[i]? = some r) : fmTab.getD i [] = r.2.map Ent.pair := by
  rw [← fmEnts_rows, List.getD_eq_getElem?_getD, List.getElem?_map, h]
  rfl
def fmChars (x : Int) (i : Nat) : List Str := (List.range i).map fun (k : Nat) => fmPick (k : Int) x (fmTab.getD k [])
theorem fmChars_succ (x : Int) (i : Nat) : fmChars x (i + 1) = fmChars x i ++ [fmPick (i : Int) x (fmTab.getD i [])] := by
  unfold fmChars
  rw [List.range_succ, List.map_append]
  rfl
theorem fmPick_len (idx x : Int) : ∀ ps : List (Int × Str), (∀ q ∈ ps, q.2.length = 1) → (fmPick idx x ps).length = 1
  | [], _ => by
    show (if idx = 0 then Str.ofString "?" else Str.ofString "-").length = 1
    split <;> decide
  | (b, c) :: r, h => by
    show (if fmHit idx x b = true then c else fmPick idx x r).length = 1
    split
    · exact h _ (List.mem_cons_self ..)
    · exact fmPick_len idx x r fun q hq => h q (List.mem_cons_of_mem _ hq)
theorem fmTab_len : ∀ r ∈ fmTab, ∀ q ∈ r, q.2.length = 1 := by decide
theorem fmChars_len (x : Int) : ∀ y ∈ fmChars x 10, y.length = 1 := by
  intro y hy
  obtain ⟨k, hk, rfl⟩ := List.mem_map.mp hy
  refine fmPick_len _ _ _ ?_
  have hk10 : k < fmTab.length := List.mem_range.mp hk
  rw [List.getD_eq_getElem?_getD, List.getElem?_eq_getElem hk10]
  exact fmTab_len _ (List.getElem_mem hk10)
theorem sum_ones : ∀ l : List Str, (∀ y ∈ l, y.length = 1) → (l.map (·.length)).sum = l.length
  | [], _ => rfl
  | y :: r, h => by
    rw [List.map_cons, List.sum_cons, sum_ones r fun q hq => h q (List.mem_cons_of_mem _ hq), h y (List.mem_cons_self ..), List.length_cons]
    omega
theorem fmChars_ok (x : Int) : ((fmChars x 10).map (·.length)).sum + (fmChars x 10).length * (Str.ofString "").length ≤ 16777216 := by
  rw [sum_ones _ (fmChars_len x)]
  have : (fmChars x 10).length = 10 := by simp [fmChars]
  rw [this]
  decide
def fmJ (x : Int) (t0 : Tok) (lp : Addr) (i : Nat) (m₁ : Str → Option Value) (news₁ : List (Addr × Obj)) : Prop :=
  m₁ (Str.ofString "mode") = some (.int x t0) ∧ m₁ (Str.ofString "perm") = some (.ref lp) ∧ ∃ its n, news₁ = [(lp, listOf its n)] ∧ StrsAre its.toList (fmChars x i)
theorem fm_end {x : Int} {t0 : Tok} {lp L : Addr} {i n : Nat} {r : Addr × List Ent} {h₀ h' : Heap} {m' : Str → Option Value} {own news : List (Addr × Obj)} {its : Array Value} {c : Str} {t : Tok} {s₁ : Shared} {tk : Nat} {Qr : Value → Shared → Prop} {Qb : Shared → Prop}
    (F : Fr h₀ L h' m') (N : News h₀ L h' news) (hr : fmEnts[i]? = some r) (hits : StrsAre its.toList (fmChars x i)) (hm1 : m' (Str.ofString "mode") = some (.int x t0)) (hm2 : m' (Str.ofString "perm") = some (.ref lp))
    (hn : (lp, listOf (its.push (.str c t)) (n + 1)) ∈ news) (ho : ∀ p ∈ own, p ∈ news) (hc : fmPick i x (r.2.map Ent.pair) = c) :
    LoopStep3 h₀ L own [(lp, listOf its n)] (fmJ x t0 lp (i + 1)) s₁ Qr Qb .next { s₁ with heap := h', toks := tk } := by
  refine LoopStep3.next (LoopStep2.intro F (news₂ := [(lp, listOf (its.push (.str c t)) (n + 1))]) (fun p hp => N p ?_) rfl ⟨hm1, hm2, _, _, rfl, ?_⟩)
  · rcases List.mem_append.mp hp with hp | hp
    · exact ho p hp
    · rw [List.mem_singleton.mp hp]; exact hn
  · rw [fmChars_succ, fmTab_at hr, hc, Array.toList_push]
    exact strsAre_push hits
theorem spec_ifmt (w : World) (mean : ExcName → Option Value) (mg mb : Str → Option Value) (x : Int) (t0 : Tok) :
    CpL 5 w mean mg mb 91 (fun _ => True) [Value.int x t0] (fun t => Value.int (Builtin.bitAnd x 61440) t) := by
  dsimp only [CpL]
  k_fill
  w_on
  intro dp un gd cn cs a ccd cl outer A₀ base h₀ L m s Q E B F X T hk hpre hd hu hret
  refine wpAny_call ?_
  k_dflt (refine' callP ?k1 ?k2 ?k3 ?k5 ?kA ?kF ?kK ?k6 ?k7 ?k8 ?k9 ?kB ?_ ?c2 ?c3 ?c4 ?c5; (case kA => exact rfl); (case kF => exact rfl); (case kK => assumption); (case k1 => k_asm); (case k2 => k_asm); (case k3 => k_asm); (case k5 => k_asm); (case k6 => k_is); (case k7 => k_is); (case k8 => ktr_room); (case k9 => first | exact BindsTo.of_eq rfl | exact binds_K (by k_in) rfl (by k_is) rfl rfl rfl); (case c5 => decide); (case kB => exact locs rfl); (case c2 => exact rfl); (case c3 => exact rfl); (case c4 => exact rfl); k_whole; intro L' h' F' N' B' X' T'; (try dsimp only); (try k_fold))
  k_steps
  all_goals exact cp_retI (Q := Q) hret (by assumption) rfl
local macro_rules | `(tactic| walk_at "call builtin:list.append") => `(tactic| (k_here; k_dflt (refine' append_K ?k1 ?k2 ?k3 ?_ ?z; (case k1 => k_asm); (case k2 => k_asm); (case k3 => k_upd); (case z => size_fits); k_whole); intro h' F' N'; (try k_sweep)))
local macro_rules | `(tactic| walk_at "eval Name") => `(tactic| (k_here; k_dflt (refine' ld ?k1 ?k2 ?_; (case k1 => k_asm); (case k2 => assumption); k_whole)))
local macro_rules | `(tactic| walk_at "call ref") => `(tactic| (k_here; (with_reducible show wpAny _ _ (call (Value.ref 91) _) _ _ _); k_dflt (refine' (spec_ifmt _ _ _ _ _ _).use ?k1 ?k2 ?k3 ?k4 ?k5 ?kK ?kp ?kd ?ku ?_; (case k1 => k_asm); (case k2 => k_asm); (case k3 => k_asm); (case k4 => k_asm); (case k5 => k_asm); (case kK => exact rfl); (case kp => trivial); (case kd => ktr_room); (case ku => ktr_units); intro t9 h9 tk9 F9 N9)))
theorem spec_filemode (w : World) (mean : ExcName → Option Value) (mg mb : Str → Option Value) (x : Int) (t0 : Tok) :
    CpL 10 w mean mg mb 131 (fun _ => True) [Value.int x t0] (fun t => Value.str (Txt.join (Str.ofString "") (fmChars x 10)) t) := by
  dsimp only [CpL]
  k_fill
  w_on
  intro dp un gd cn cs a ccd cl outer A₀ base h₀ L m s Q E B F X T hk hpre hd hu hret
  refine wpAny_call ?_
  k_dflt (refine' callP ?k1 ?k2 ?k3 ?k5 ?kA ?kF ?kK ?k6 ?k7 ?k8 ?k9 ?kB ?_ ?c2 ?c3 ?c4 ?c5; (case kA => exact rfl); (case kF => exact rfl); (case kK => assumption); (case k1 => k_asm); (case k2 => k_asm); (case k3 => k_asm); (case k5 => k_asm); (case k6 => k_is); (case k7 => k_is); (case k8 => ktr_room); (case k9 => first | exact BindsTo.of_eq rfl | exact binds_K (by k_in) rfl (by k_is) rfl rfl rfl); (case c5 => decide); (case kB => exact locs rfl); (case c2 => exact rfl); (case c3 => exact rfl); (case c4 => exact rfl); k_whole; intro L' h' F' N' B' X' T'; (try dsimp only); (try k_fold))
  k_steps
  rename_i lp h20 hTr h2 F2 N2
  refine call_enumTS rfl (vs := fmEnts.map fun r => Value.ref r.1) (fmTable X') F2 N2 ?_
  intro h3 e F3 N3 S3
  refine S3 _ rfl _ _ _ _ (fmJ x t0 lp) ?_ ?_ ?_
  · exact ⟨rfl, rfl, #[], 0, rfl, .nil⟩
  · rintro i a9 t9 v9 m₁ news₁ s₁ own ⟨h4, tk4, rfl⟩ hi hv ⟨hm1, hm2, its, n, rfl, hits⟩ ha hown F4 N4
    have F4 : Fr s.heap L' h4 _ := F4
    have N4 : News s.heap L' h4 (own ++ [(lp, listOf its n)]) := N4
    have hv : v9 = a9 := hv
    subst hv
    obtain ⟨r, hr, rfl⟩ : ∃ r, fmEnts[i]? = some r ∧ v9 = Value.ref r.1 := by
      rw [List.getElem?_map] at hi
      cases hq : fmEnts[i]? with
      | none => rw [hq] at hi; cases hi
      | some r => rw [hq] at hi; exact ⟨r, rfl, (Option.some.inj hi).symm⟩
    have hi10 : i < 10 := (List.getElem?_eq_some_iff.mp hr).1
    have hsz : its.size ≤ 10 := by
      have q := hits.length
      simp only [fmChars, List.length_map, List.length_range, Array.length_toList] at q
      omega
    have hrow := fmRows X' r (List.mem_of_getElem? hr)
    have hownN : ∀ p ∈ own, p.1 ≠ lp := fun p hp => hown p hp _ (List.mem_singleton.mpr rfl)
    have N5 : News s.heap L' h4 ((lp, listOf its n) :: own) := fun p hp => N4 p (by
      rcases List.mem_cons.mp hp with rfl | hp
      · exact List.mem_append_right _ (List.mem_singleton.mpr rfl)
      · exact List.mem_append_left _ hp)
    clear S3 F3 N3 F2 N2 N4
    dsimp only
    refine wpAny_execs_cons ?_
    refine forPairsS (news := (lp, listOf its n) :: own) (P := fun k v0 v1 => ∃ e, r.2[k]? = some e ∧ v0 = .int e.bit e.bt ∧ v1 = .str e.sign e.st) F4 N5 rfl hrow.1 ?_
      (fun k m₂ news₂ => m₂ (Str.ofString "mode") = some (.int x t0) ∧ m₂ (Str.ofString "perm") = some (.ref lp) ∧ m₂ (Str.ofString "index") = some (.int i t9) ∧ news₂ = (lp, listOf its n) :: own ∧ fmPick i x (r.2.map Ent.pair) = fmPick i x ((r.2.drop k).map Ent.pair)) ?_ ?_ ?_
    · intro k v hk'
      rw [List.getElem?_toArray, List.getElem?_map] at hk'
      cases hq : r.2[k]? with
      | none => rw [hq] at hk'; cases hk'
      | some e =>
        rw [hq] at hk'
        have hv := (Option.some.inj hk').symm
        exact ⟨e.at_, _, _, hv, hrow.2 e (List.mem_of_getElem? hq), e, rfl, rfl, rfl⟩
    · exact ⟨hm1, hm2, rfl, rfl, rfl⟩
    · rintro I hI k v0 v1 m₂ news₂ h5 tk5 o hk5 ⟨e, he, rfl, rfl⟩ ⟨j1, j2, j3, rfl, j5⟩ hnI F5 N6
      have hIlp : lp < I := hI _ (List.mem_cons_self ..)
      replace hIlp := ltN hIlp
      have hmem : ∀ {X : Obj}, ∀ p ∈ own, p ∈ (I, o) :: (lp, X) :: own := fun p hp => List.mem_cons_of_mem _ (List.mem_cons_of_mem _ hp)
      (with_reducible show wpAny _ _ _ _ _ _)
      k_fold
      k_steps
      all_goals ((rename Fr _ _ _ _ => Fe); (rename News _ _ _ _ => Ne))
      · refine Stop.mk ?_
        show wpAny _ _ (execs [] _) _ _ _
        refine wpAny_execs_nil ?_
        exact fm_end Fe Ne hr hits j1 j2 (List.mem_cons_of_mem _ (List.mem_cons_self ..)) hmem (j5.trans (fmPick_hit he ((fmHit_0 (by assumption)).trans (decide_eq_true (by assumption)))))
      · exact Stop.mk ⟨_, _, _, _, rfl, Fe, Ne, hnI, j1, j2, j3, rfl, j5.trans (fmPick_miss he ((fmHit_0 (by assumption)).trans (decide_eq_false (by assumption))))⟩
      · refine Stop.mk ?_
        show wpAny _ _ (execs [] _) _ _ _
        refine wpAny_execs_nil ?_
        exact fm_end Fe Ne hr hits j1 j2 (List.mem_cons_of_mem _ (List.mem_cons_self ..)) hmem (j5.trans (fmPick_hit he ((fmHit_n (by assumption)).trans (decide_eq_true (by assumption)))))
      · exact Stop.mk ⟨_, _, _, _, rfl, Fe, Ne, hnI, j1, j2, j3, rfl, j5.trans (fmPick_miss he ((fmHit_n (by assumption)).trans (decide_eq_false (by assumption))))⟩
    · rintro h5 tk5 m₂ news₂ F5 N6 ⟨j1, j2, j3, rfl, j5⟩
      have j6 := j5.trans (fmPick_end (by simp))
      (with_reducible show wpAny _ _ _ _ _ _)
      k_fold
      k_steps
      all_goals ((rename Fr _ _ _ _ => Fe); (rename News _ _ _ _ => Ne))
      · rw [if_pos (by assumption)] at j6
        exact fm_end Fe Ne hr hits j1 j2 (List.mem_cons_self ..) (fun p hp => List.mem_cons_of_mem _ hp) j6
      · rw [if_neg (by assumption)] at j6
        exact fm_end Fe Ne hr hits j1 j2 (List.mem_cons_self ..) (fun p hp => List.mem_cons_of_mem _ hp) j6
  · rintro h4 tk4 m4 news4 F4 N4 ha ⟨hm1, hm2, its, n, rfl, hits⟩
    have F4 : Fr s.heap L' h4 _ := F4
    have N4 : News s.heap L' h4 [(lp, listOf its n)] := N4
    have hits : StrsAre its.toList (fmChars x 10) := hits
    clear S3 F3 N3 F2 N2
    dsimp only
    k_steps
    (with_reducible show wpAny _ _ _ _ _ _)
    k_dflt (refine' join_list (News.isList N4 (List.mem_singleton.mpr rfl)) hits (fmChars_ok x) ?_)
    intro t7 k7
    k_steps
    exact cp_retS (Q := Q) hret (by assumption) rfl
  
end Mine
end
section
open PySem PySem.W PyProof.Rows
set_option Elab.async false
set_option maxRecDepth 100000
set_option maxHeartbeats 4000000
namespace Mine
section
variable {M : Model} {A : Around} {E : Value → Shared → Prop} {s : Shared} {env : Env}
/-- a conditional text as one term -/
theorem ifexpJoin {test body orelse : PySem.Expr} {pos : Pos} {Q : Value → Shared → Prop} {c : Bool} {x y : Str}
    (ht : wpAny M A (isTrue test env (eval test env)) (fun r s' => Stop (r = c ∧ ∃ tk, s' = { s with toks := tk })) E s)
    (hb : ∀ tk, wpAny M A (eval body env) (fun v s' => Stop (∃ t tk', v = .str x t ∧ s' = { s with toks := tk' })) E { s with toks := tk })
    (ho : ∀ tk, wpAny M A (eval orelse env) (fun v s' => Stop (∃ t tk', v = .str y t ∧ s' = { s with toks := tk' })) E { s with toks := tk })
    (hz : (if c = true then x else y).length ≤ 10)
    (h : ∀ t tk z, z = (if c = true then x else y) → z.length ≤ 10 → Q (.str z t) { s with toks := tk }) :
    wpAny M A (eval (.IfExp test body orelse pos) env) Q E s := by
  refine IfExp_ (wpAny_mono ht (fun r s₂ h₂ => ?_) fun _ _ e => e)
  obtain ⟨rfl, tk, rfl⟩ := h₂.out
  cases r
  · refine wpAny_mono (ho tk) (fun v s₃ h₃ => ?_) fun _ _ e => e
    obtain ⟨t, tk', rfl, rfl⟩ := h₃.out
    exact h t tk' _ rfl hz
  · refine wpAny_mono (hb tk) (fun v s₃ h₃ => ?_) fun _ _ e => e
    obtain ⟨t, tk', rfl, rfl⟩ := h₃.out
    exact h t tk' _ rfl hz
end
local macro_rules | `(tactic| walk_at "eval IfExp") => `(tactic| (k_here; refine stopAt ?_))
local macro_rules | `(tactic| walk_at "subscriptTail") => `(tactic| (k_here; refine stopAt ?_))
local macro_rules | `(tactic| walk_at "exec For Tuple Tuple cons nil") => `(tactic| (k_here; k_dflt (refine' wpAny_For ?_ ?hs; (case hs => (intro _; with_unfolding_all rfl)))))
local macro_rules | `(tactic| walk_at "pyIter ref") => `(tactic| (k_here; refine stopAt ?_))
local macro_rules | `(tactic| walk_at "eval Name") => `(tactic| (k_here; k_dflt (refine' ld ?k1 ?k2 ?_; (case k1 => k_asm); (case k2 => assumption))))
local macro_rules | `(tactic| walk_at "loadName") => `(tactic| (k_here; k_dflt (refine' ldn ?k1 ?k2 ?_; (case k1 => k_asm); (case k2 => assumption); k_whole)))
def lrTab : List (Int × Int × Str) := [(64, 2048, Str.ofString "Ss"), (8, 1024, Str.ofString "Ss"), (1, 512, Str.ofString "Tt")]
def lrSeg (x f ab : Int) (en : Str) (r : Str) : Str :=
  (r ++ ((if decide (4 ≤ (x.fdiv f).fmod 8) = true then Str.ofString "r" else Str.ofString "-") ++ (if decide (2 ≤ ((x.fdiv f).fmod 8).fmod 4) = true then Str.ofString "w" else Str.ofString "-"))) ++
    (if ((x.fdiv ab).fmod 2 == 1) = true then Txt.item en (((x.fdiv f).fmod 8).fmod 2) else Txt.item (Str.ofString "-x") (((x.fdiv f).fmod 8).fmod 2))
def lrAcc (x : Int) : Nat → Str
  | 0 => Txt.item (Str.ofString "?pc?d?b?-?l?s???") ((x.fdiv 4096).fmod 16)
  | i + 1 => match lrTab[i]? with
    | some (f, ab, en) => lrSeg x f ab en (lrAcc x i)
    | none => lrAcc x i
theorem lrAcc_succ {x : Int} {i : Nat} {f ab : Int} {en : Str} (h : lrTab[i]? = some (f, ab, en)) : lrAcc x (i + 1) = lrSeg x f ab en (lrAcc x i) := by
  show (match lrTab[i]? with | some (f, ab, en) => lrSeg x f ab en (lrAcc x i) | none => lrAcc x i) = _
  rw [h]
theorem lrTab_ok : ∀ r ∈ lrTab, 0 < r.1 ∧ 0 < r.2.1 ∧ r.2.2.length = 2 ∧ r.1 ≤ 4096 ∧ r.2.1 ≤ 4096 := by decide +kernel
theorem spec_law_row (w : World) (mean : ExcName → Option Value) (mg mb : Str → Option Value) (x : Int) (t0 : Tok) :
    CpL 10 w mean mg mb 138 (fun _ => True) [Value.int x t0] (fun t => Value.str (lrAcc x 3) t) := by
  dsimp only [CpL]
  k_fill
  w_on
  intro dp un gd cn cs a ccd cl outer A₀ base h₀ L m s Q E B F X T hk hpre hd hu hret
  refine wpAny_call ?_
  k_dflt (refine' callP ?k1 ?k2 ?k3 ?k5 ?kA ?kF ?kK ?k6 ?k7 ?k8 ?k9 ?kB ?_ ?c2 ?c3 ?c4 ?c5; (case kA => exact rfl); (case kF => exact rfl); (case kK => assumption); (case k1 => k_asm); (case k2 => k_asm); (case k3 => k_asm); (case k5 => k_asm); (case k6 => k_is); (case k7 => k_is); (case k8 => ktr_room); (case k9 => first | exact BindsTo.of_eq rfl | exact binds_K (by k_in) rfl (by k_is) rfl rfl rfl); (case c5 => decide); (case kB => exact locs rfl); (case c2 => exact rfl); (case c3 => exact rfl); (case c4 => exact rfl); k_whole; intro L' h' F' N' B' X' T'; (try dsimp only); (try k_fold))
  k_steps
  refine Stop.mk ?_
  refine item_str_fmod (by decide) (by decide +kernel) (by decide +kernel) ?_
  intro hlen
  k_steps
  refine Stop.mk ?_
  rename_i d0 g0 q0 d1 g1 q1 d2 g2 q2 ax h2 F2 N2 l2
  dsimp only at N2 F2 ⊢
  obtain ⟨ta, tb, tc, td, te, tf, tg, th, ti, N3⟩ : ∃ ta tb tc td te tf tg th ti, News s.heap L' h2 [(ax, tupOf #[.ref d0, .ref d1, .ref d2] 0), (d2, tupOf #[.int 1 ta, .int 512 tb, .str (Str.ofString "Tt") tc] 0), (d1, tupOf #[.int 8 td, .int 1024 te, .str (Str.ofString "Ss") tf] 0), (d0, tupOf #[.int 64 tg, .int 2048 th, .str (Str.ofString "Ss") ti] 0)] := ⟨_, _, _, _, _, _, _, _, _, N2⟩
  clear N2
  refine forTupL (news := [(ax, tupOf #[.ref d0, .ref d1, .ref d2] 0), (d2, tupOf #[.int 1 ta, .int 512 tb, .str (Str.ofString "Tt") tc] 0), (d1, tupOf #[.int 8 td, .int 1024 te, .str (Str.ofString "Ss") tf] 0), (d0, tupOf #[.int 64 tg, .int 2048 th, .str (Str.ofString "Ss") ti] 0)]) (nt := 0) (items := #[.ref d0, .ref d1, .ref d2]) F2 N3 ?_
    (fun i m₁ news₁ => news₁ = [(ax, tupOf #[.ref d0, .ref d1, .ref d2] 0), (d2, tupOf #[.int 1 ta, .int 512 tb, .str (Str.ofString "Tt") tc] 0), (d1, tupOf #[.int 8 td, .int 1024 te, .str (Str.ofString "Ss") tf] 0), (d0, tupOf #[.int 64 tg, .int 2048 th, .str (Str.ofString "Ss") ti] 0)] ∧ m₁ (Str.ofString "mode") = some (.int x t0) ∧ (lrAcc x i).length ≤ 40 * i + 1 ∧ i ≤ 3 ∧ ∃ t, m₁ (Str.ofString "row") = some (.str (lrAcc x i) t)) ⟨rfl, rfl, (by show 1 ≤ 1; decide), (by decide), _, rfl⟩ ?_ ?_ ?_
  · intro i v hv
    match i, hv with
    | 0, hv => exact ⟨_, (Option.some.inj hv).symm⟩
    | 1, hv => exact ⟨_, (Option.some.inj hv).symm⟩
    | 2, hv => exact ⟨_, (Option.some.inj hv).symm⟩
  · rintro i m' news' ⟨rfl, _⟩
    exact List.mem_cons_self ..
  · rintro I hI i v m₁ news₁ h₁ tk₁ o hv ⟨rfl, hm1, hla, hi3, tr, hm2⟩ hnI F5 N5
    obtain ⟨b, f, ab, en, t1, t2, t3, rfl, hlr, hb⟩ : ∃ b f ab en t1 t2 t3, v = Value.ref b ∧ lrTab[i]? = some (f, ab, en) ∧ h₁.IsTuple b #[.int f t1, .int ab t2, .str en t3] := by
      match i, hv with
      | 0, hv => exact ⟨_, _, _, _, _, _, _, (Option.some.inj hv).symm, rfl, isTuple_news N5 (List.mem_cons_of_mem _ (List.mem_cons_of_mem _ (List.mem_cons_of_mem _ (List.mem_cons_of_mem _ (List.mem_cons_self ..)))))⟩
      | 1, hv => exact ⟨_, _, _, _, _, _, _, (Option.some.inj hv).symm, rfl, isTuple_news N5 (List.mem_cons_of_mem _ (List.mem_cons_of_mem _ (List.mem_cons_of_mem _ (List.mem_cons_self ..))))⟩
      | 2, hv => exact ⟨_, _, _, _, _, _, _, (Option.some.inj hv).symm, rfl, isTuple_news N5 (List.mem_cons_of_mem _ (List.mem_cons_of_mem _ (List.mem_cons_self ..)))⟩
    obtain ⟨hf0, hab0, hen, hf1, hab1⟩ := lrTab_ok _ (List.mem_of_getElem? hlr)
    dsimp only at hf0 hab0 hen hf1 hab1
    have hfn : f ≠ 0 := by omega
    have habn : ab ≠ 0 := by omega
    clear F2 N3
    refine assign3 F5 N5 hb ?_
    intro h6 tk6 F6 N6
    clear F5 N5
    (with_reducible show wpAny _ _ _ _ _ _)
    k_fold
    k_steps
    refine Stop.mk ?_
    refine' ifexpJoin ?ht ?hb ?ho ?hz ?_
    case ht => (k_steps; exact Stop.mk ⟨rfl, _, rfl⟩)
    case hb => (intro tk; k_steps; exact Stop.mk ⟨_, _, rfl, rfl⟩)
    case ho => (intro tk; k_steps; exact Stop.mk ⟨_, _, rfl, rfl⟩)
    case hz => (split <;> first | decide | exact (by show 1 ≤ 10; decide))
    intro t8 tk8 z1 hz1 lz1
    dsimp only
    k_steps
    refine Stop.mk ?_
    refine' ifexpJoin ?ht ?hb ?ho ?hz ?_
    case ht => (k_steps; exact Stop.mk ⟨rfl, _, rfl⟩)
    case hb => (intro tk; k_steps; exact Stop.mk ⟨_, _, rfl, rfl⟩)
    case ho => (intro tk; k_steps; exact Stop.mk ⟨_, _, rfl, rfl⟩)
    case hz => (split <;> first | decide | exact (by show 1 ≤ 10; decide))
    intro t8 tk8 z2 hz2 lz2
    dsimp only
    k_steps
    refine Stop.mk ?_
    refine' ifexpJoin ?ht ?hb ?ho ?hz ?_
    case ht => (k_steps; exact Stop.mk ⟨rfl, _, rfl⟩)
    case hb => (intro tk; k_steps; refine Stop.mk ?_; refine item_str_fmod (by decide) (by omega) (by omega) ?_; intro _; exact Stop.mk ⟨_, _, rfl, rfl⟩)
    case ho => (intro tk; k_steps; refine Stop.mk ?_; refine item_str_fmod (by decide) (by decide +kernel) (by decide +kernel) ?_; intro _; exact Stop.mk ⟨_, _, rfl, rfl⟩)
    case hz => (split <;> first | decide | exact (by show 1 ≤ 10; decide))
    intro t8 tk8 z3 hz3 lz3
    dsimp only
    k_steps
    (rename Fr _ _ _ _ => Fe); (rename News _ _ _ _ => Ne)
    have hi2 : i < 3 := (List.getElem?_eq_some_iff.mp hlr).1
    have hacc : lrAcc x (i + 1) = lrAcc x i ++ (z1 ++ z2) ++ z3 := (lrAcc_succ hlr).trans (by unfold lrSeg; rw [hz1, hz2, hz3])
    refine Stop.mk ⟨_, _, _, _, rfl, Fe, Ne, hnI, rfl, hm1, ?_, hi2, ?_⟩
    · rw [hacc]; simp only [Str.length_append] at *; omega
    · rw [hacc]; exact ⟨_, rfl⟩
  · rintro h4 tk4 m4 news4 F4 N4 ⟨rfl, hm1, hla, hi3, tr, hm2⟩
    k_steps
    exact cp_retS (Q := Q) hret (by assumption) rfl
  
end Mine
end
section
open PySem PySem.W PyProof.Rows
set_option Elab.async false
set_option maxRecDepth 100000
set_option maxHeartbeats 1000000
namespace Mine
open PySem PySem.Spec PySem.Calls
local macro_rules | `(tactic| k_all) => `(tactic| assumption)
local macro_rules | `(tactic| walk_at "pad1") => `(tactic| fail)
local macro_rules | `(tactic| walk_at "exec For Name Call cons cons") => `(tactic| (k_here; k_dflt (refine' wpAny_For ?_ ?hs; (case hs => (intro _; with_unfolding_all rfl)))))
local macro_rules | `(tactic| walk_at "pyIter ref") => `(tactic| (k_here; refine stopAt ?_))
local macro_rules | `(tactic| walk_at "eval Name") => `(tactic| (k_here; k_dflt (refine' ld ?k1 ?k2 ?_; (case k1 => k_asm); (case k2 => assumption))))
local macro_rules | `(tactic| walk_at "loadName") => `(tactic| (k_here; k_dflt (refine' ldn ?k1 ?k2 ?_; (case k1 => k_asm); (case k2 => assumption))))
local macro_rules | `(tactic| walk_at "call builtin:list.append") => `(tactic| (k_here; k_dflt (refine' append_K ?k1 ?k2 ?k3 ?_ ?z; (case k1 => k_asm); (case k2 => k_asm); (case k3 => k_upd); (case z => size_fits); k_whole); intro h' F' N'; (try k_sweep)))
def flagNames : List (Int × Str × Tok) := [(1, Str.ofString "OPTIMIZED", 284), (2, Str.ofString "NEWLOCALS", 286), (4, Str.ofString "VARARGS", 288), (8, Str.ofString "VARKEYWORDS", 290), (16, Str.ofString "NESTED", 292), (32, Str.ofString "GENERATOR", 294), (64, Str.ofString "NOFREE", 296), (128, Str.ofString "COROUTINE", 298), (256, Str.ofString "ITERABLE_COROUTINE", 300), (512, Str.ofString "ASYNC_GENERATOR", 302)]
def flagD : List (PyData × PyData) := flagNames.map fun p => (.int p.1, .str p.2.1)
theorem flagTab {prog : Program} {w : World} {h : Heap} (X : (hd.heap_39 w.params).In h) : IntTab prog w h 70 flagD := by
  refine TabAt.ofObj (kvs := flagNames.map fun p => (p.1, .str p.2.1 p.2.2)) rfl (X _ _ rfl) ⟨_, _, ?_, rfl, ?_, ?_, ?_⟩ ?_
  · exact ⟨rfl, rfl, rfl⟩
  · intro e he
    have he := Array.mem_toList_iff.mpr he
    simp only [List.mem_cons, List.not_mem_nil, or_false] at he
    rcases he with rfl | rfl | rfl | rfl | rfl | rfl | rfl | rfl | rfl | rfl
    · exact ⟨1, rfl, rfl⟩
    · exact ⟨2, rfl, rfl⟩
    · exact ⟨4, rfl, rfl⟩
    · exact ⟨8, rfl, rfl⟩
    · exact ⟨16, rfl, rfl⟩
    · exact ⟨32, rfl, rfl⟩
    · exact ⟨64, rfl, rfl⟩
    · exact ⟨128, rfl, rfl⟩
    · exact ⟨256, rfl, rfl⟩
    · exact ⟨512, rfl, rfl⟩
  · repeat (refine .cons rfl rfl ?_)
    exact .nil
  · decide
  · unfold flagD flagNames
    simp only [List.map_cons, List.map_nil]
    repeat (refine .cons (PyProof.V.Flat.str _ _) ?_)
    exact .nil
def flagWord (k : Int) (h : Str) : Str := match Spec.lookup (.int k) flagD with | some (.str x) => x | _ => h
theorem flagWord_is (k : Int) (h : Str) : (Spec.lookup (.int k) flagD).getD (.str h) = .str (flagWord k h) := by
  unfold flagWord
  have : ∀ (l : List (Int × Str × Tok)) d, Spec.lookup (.int k) (l.map fun p => (PyData.int p.1, PyData.str p.2.1)) = some d → ∃ x, d = .str x := by
    intro l
    induction l with
    | nil => intro d e; cases e
    | cons p r ih =>
      intro d e
      rw [List.map_cons] at e
      unfold Spec.lookup at e
      split at e
      · exact ⟨_, (Option.some.inj e).symm⟩
      · exact ih d e
  cases hq : Spec.lookup (.int k) flagD with
  | none => rfl
  | some d =>
    obtain ⟨x, rfl⟩ := this _ d hq
    rfl
theorem get_flag {prog : Program} {w : World} {A : Around} {E : Value → Shared → Prop} {s : Shared} {k : Int} {t u : Tok} {hx : Str} {Q : Value → Shared → Prop} (X : (hd.heap_39 w.params).In s.heap)
    (h : ∀ t', Q (.str (flagWord k hx) t') { s with toks := s.toks + 1 }) : wpAny (model prog w) A (call (.builtin "dict.get") [.ref 70, .int k t, .str hx u]) Q E s := by
  refine call_get2_intTab (flagTab X) (PyProof.V.Flat.str hx u) fun v hv => ?_
  rw [flagWord_is] at hv
  obtain ⟨t', rfl⟩ := hv.str_inv
  exact h t'
local macro_rules | `(tactic| walk_at "call builtin:dict.get") => `(tactic| (k_here; k_dflt (refine' get_flag ?X ?_; (case X => k_in)); intro tg))
def pfW (k : Nat) : Str := flagWord (2 ^ k) (baseText "0x" 16 (2 ^ k))
theorem pfW_len : ∀ k, k < 32 → (pfW k).length ≤ 40 := by decide +kernel
theorem hexLen : ∀ k, k < 32 → (baseText "0x" 16 (2 ^ k)).length ≤ 40 := by decide +kernel
def pfAcc (x : Int) (i : Nat) : List Str := ((List.range i).filter fun (k : Nat) => decide (x / 2 ^ k % 2 = 1)).map pfW
theorem pfAcc_yes {x : Int} {i : Nat} (h : x / 2 ^ i % 2 = 1) : pfAcc x (i + 1) = pfAcc x i ++ [pfW i] := by
  unfold pfAcc
  rw [List.range_succ, List.filter_append, List.map_append, List.filter_cons_of_pos (by simpa using h)]
  rfl
theorem pfAcc_no {x : Int} {i : Nat} (h : ¬ x / 2 ^ i % 2 = 1) : pfAcc x (i + 1) = pfAcc x i := by
  unfold pfAcc
  rw [List.range_succ, List.filter_append, List.map_append, List.filter_cons_of_neg (by simpa using h)]
  simp
theorem pfAcc_len {x : Int} : ∀ {i : Nat}, i ≤ 32 → (pfAcc x i).length ≤ i ∧ ∀ y ∈ pfAcc x i, y.length ≤ 40
  | 0, _ => ⟨Nat.le_refl _, fun _ h => nomatch h⟩
  | i + 1, hi => by
    obtain ⟨h1, h2⟩ := pfAcc_len (x := x) (i := i) (by omega)
    by_cases h : x / 2 ^ i % 2 = 1
    · rw [pfAcc_yes h]
      refine ⟨by simp; omega, fun y hy => ?_⟩
      rcases List.mem_append.mp hy with hy | hy
      · exact h2 y hy
      · rw [List.mem_singleton.mp hy]; exact pfW_len i (by omega)
    · rw [pfAcc_no h]
      exact ⟨by omega, h2⟩
theorem sum_le40 : ∀ l : List Str, (∀ y ∈ l, y.length ≤ 40) → (l.map (·.length)).sum ≤ 40 * l.length
  | [], _ => Nat.le_refl _
  | y :: r, h => by
    have := sum_le40 r fun q hq => h q (List.mem_cons_of_mem _ hq)
    have h0 := h y (List.mem_cons_self ..)
    rw [List.map_cons, List.sum_cons, List.length_cons]
    omega
theorem join_ok {l : List Str} (h1 : l.length ≤ 100) (h2 : ∀ y ∈ l, y.length ≤ 40) : (l.map (·.length)).sum + l.length * (Str.ofString ", ").length ≤ 16777216 := by
  have := sum_le40 l h2
  have e : (Str.ofString ", ").length = 2 := by decide
  rw [e]
  omega
theorem pow_pos' (i : Nat) : (0 : Int) < 2 ^ i := Int.pow_pos (by decide)
theorem div_succ (x : Int) (i : Nat) : x / 2 ^ (i + 1) = x / 2 ^ i / 2 := by
  rw [Int.pow_succ, Int.ediv_ediv, if_neg (fun h => absurd h.1 (Int.not_lt.mpr (Int.le_of_lt (pow_pos' i)))), Int.sub_zero]
theorem pfAcc_stays {x : Int} {j : Nat} (h : x / 2 ^ j = 0) : ∀ d : Nat, x / 2 ^ (j + d) = 0 ∧ pfAcc x (j + d) = pfAcc x j
  | 0 => ⟨h, rfl⟩
  | d + 1 => by
    obtain ⟨a, b⟩ := pfAcc_stays h d
    refine ⟨?_, ?_⟩
    · rw [← Nat.add_assoc, div_succ, a]; rfl
    · rw [← Nat.add_assoc, pfAcc_no (by rw [a]; decide), b]
theorem one_pow (i : Nat) : (1 : Int) * 2 ^ Int.toNat (i : Int) = 2 ^ i := by rw [Int.toNat_natCast, Int.one_mul]
theorem pf_and (x : Int) (i : Nat) : Builtin.bitAnd (x / 2 ^ i * 2 ^ i) (1 * 2 ^ Int.toNat (i : Int)) = (x / 2 ^ i % 2) * 2 ^ i := by
  rw [one_pow, kbt_bit, Int.mul_ediv_cancel _ (Int.ne_of_gt (pow_pos' i))]
theorem pf_xor {x : Int} {i : Nat} (h : x / 2 ^ i % 2 = 1) : Builtin.bitXor (x / 2 ^ i * 2 ^ i) (1 * 2 ^ Int.toNat (i : Int)) = x / 2 ^ (i + 1) * 2 ^ (i + 1) := by
  rw [bitXor_and, pf_and, h, one_pow, div_succ, Int.pow_succ]
  generalize hq : x / 2 ^ i = q at *
  have e : q = 2 * (q / 2) + 1 := by omega
  generalize (2 : Int) ^ i = P
  generalize q / 2 = k at *
  subst e
  rw [Int.add_mul, Int.mul_comm P 2, Int.mul_assoc 2 k P, Int.mul_left_comm k 2 P]
  omega
theorem pf_keep {x : Int} {i : Nat} (h : ¬ x / 2 ^ i % 2 = 1) : x / 2 ^ i * 2 ^ i = x / 2 ^ (i + 1) * 2 ^ (i + 1) := by
  rw [div_succ, Int.pow_succ]
  generalize hq : x / 2 ^ i = q at *
  have e : q = 2 * (q / 2) := by omega
  generalize (2 : Int) ^ i = P
  generalize q / 2 = k at *
  subst e
  rw [Int.mul_comm P 2, Int.mul_assoc 2 k P, Int.mul_left_comm k 2 P]
theorem pf_set {x : Int} {i : Nat} (h : (x / 2 ^ i % 2) * 2 ^ i ≠ 0) : x / 2 ^ i % 2 = 1 := by
  rcases Int.emod_two_eq (x / 2 ^ i) with e | e
  · rw [e, Int.zero_mul] at h; exact absurd rfl h
  · exact e
theorem pf_unset {x : Int} {i : Nat} (h : (x / 2 ^ i % 2) * 2 ^ i = 0) : ¬ x / 2 ^ i % 2 = 1 := by
  intro e
  rw [e, Int.one_mul] at h
  exact Int.ne_of_gt (pow_pos' i) h
theorem pf_zero {q : Int} {i : Nat} (h : q * 2 ^ i = 0) : q = 0 := by
  rcases Int.mul_eq_zero.mp h with e | e
  · exact e
  · exact absurd e (Int.ne_of_gt (pow_pos' i))
theorem pf_lt {x : Int} {i : Nat} (h1 : x < 4096) (h0 : 0 ≤ x) (h : x / 2 ^ i % 2 = 1) : i < 12 := by
  apply Classical.byContradiction
  intro hn
  have hz : x / 2 ^ 12 = 0 := by omega
  obtain ⟨a, _⟩ := pfAcc_stays hz (i - 12)
  rw [show 12 + (i - 12) = i from by omega] at a
  rw [a] at h
  cases h
def pfWords (x : Int) : List Str := if x = 0 then [Str.ofString "0x0"] else pfAcc x 12
theorem pfWords_brk {x : Int} {i : Nat} (h0 : 0 ≤ x) (h1 : x < 4096) (hb : x / 2 ^ i % 2 = 1) (hz : x / 2 ^ (i + 1) * 2 ^ (i + 1) = 0) : pfAcc x (i + 1) = pfWords x := by
  have hi := pf_lt h1 h0 hb
  have hx : x ≠ 0 := by rintro rfl; rw [Int.zero_ediv] at hb; cases hb
  obtain ⟨_, b⟩ := pfAcc_stays (pf_zero hz) (12 - (i + 1))
  rw [show i + 1 + (12 - (i + 1)) = 12 from by omega] at b
  unfold pfWords
  rw [if_neg hx, b]
theorem spec_pretty (w : World) (mean : ExcName → Option Value) (mg mb : Str → Option Value) (x : Int) (t0 : Tok) :
    CpL 10 w mean mg mb 77 (fun _ => 0 ≤ x ∧ x < 4096) [Value.int x t0] (fun t => Value.str (Txt.join (Str.ofString ", ") (pfWords x)) t) := by
  dsimp only [CpL]
  k_fill
  w_on
  intro dp un gd cn cs a ccd cl outer A₀ base h₀ L m s Q E B F X T hk hpre hd hu hret
  refine wpAny_call ?_
  k_dflt (refine' callP ?k1 ?k2 ?k3 ?k5 ?kA ?kF ?kK ?k6 ?k7 ?k8 ?k9 ?kB ?_ ?c2 ?c3 ?c4 ?c5; (case kA => exact rfl); (case kF => exact rfl); (case kK => assumption); (case k1 => k_asm); (case k2 => k_asm); (case k3 => k_asm); (case k5 => k_asm); (case k6 => k_is); (case k7 => k_is); (case k8 => ktr_room); (case k9 => first | exact BindsTo.of_eq rfl | exact binds_K (by k_in) rfl (by k_is) rfl rfl rfl); (case c5 => decide); (case kB => exact locs rfl); (case c2 => exact rfl); (case c3 => exact rfl); (case c4 => exact rfl); k_whole; intro L' h' F' N' B' X' T'; (try dsimp only); (try k_fold))
  k_steps
  rename_i ln g1 q1 g2 F1 N1 h2 tk2 u1 u2 u3 hr F2 N2 hk2
  refine Stop.mk ?_
  dsimp only at hr ⊢
  refine forRangeL (n := 32) hr (by decide) (by decide) F2 N2 (fun i m₁ news₁ => ∃ its n tf, m₁ (Str.ofString "flags") = some (.int (x / 2 ^ i * 2 ^ i) tf) ∧ m₁ (Str.ofString "names") = some (.ref ln) ∧ news₁ = [(ln, listOf its n)] ∧ StrsAre its.toList (pfAcc x i) ∧ (x = 0 ∨ x / 2 ^ i ≠ 0)) ⟨#[], 0, t0, by rw [show x / 2 ^ 0 * 2 ^ 0 = x from by simp]; rfl, rfl, rfl, .nil, by rw [show x / 2 ^ 0 = x from by simp]; omega⟩ ?_ ?_
  · rintro I hI i t m₁ news₁ h₁ tk₁ o hi ⟨its, n, tf, hm1, hm2, rfl, hits, hx0⟩ hnI F5 N5
    have hIl : ln < I := hI _ (List.mem_singleton.mpr rfl)
    replace hIl := ltN hIl
    have hi0 : (0 : Int) ≤ i := by omega
    have hi1 : (i : Int) < 32 := by omega
    have hsz : its.size ≤ 32 := by
      have q := hits.length
      have r := (pfAcc_len (x := x) (i := i) (by omega)).1
      rw [Array.length_toList] at q
      omega
    have hhx : (baseText "0x" 16 (1 * 2 ^ Int.toNat (i : Int))).length ≤ 40 := by rw [one_pow]; exact hexLen i hi
    have hAnd := pf_and x i
    generalize hfv : x / 2 ^ i * 2 ^ i = fv at *
    clear F1 N1 F2 N2 hr hk2
    (with_reducible show wpAny _ _ _ _ _ _)
    k_fold
    k_steps
    · (rename Fr _ _ _ _ => Fe); (rename News _ _ _ _ => Ne)
      (rename (Builtin.bitAnd _ _ ≠ 0) => hb); (rename (Builtin.bitXor _ _ ≠ 0) => hxr)
      rw [hAnd] at hb
      have hbit := pf_set hb
      have hxe : Builtin.bitXor fv (1 * 2 ^ Int.toNat (i : Int)) = x / 2 ^ (i + 1) * 2 ^ (i + 1) := by rw [← hfv]; exact pf_xor hbit
      have hw : flagWord (1 * 2 ^ Int.toNat (i : Int)) (baseText "0x" 16 (1 * 2 ^ Int.toNat (i : Int))) = pfW i := by unfold pfW; rw [one_pow]
      refine Stop.mk ⟨_, _, _, _, rfl, Fe, Ne, ?_, ?_⟩
      · intro p hp; rw [List.mem_singleton.mp hp]; exact Nat.ne_of_lt hIl
      rw [← hxe]
      refine ⟨_, _, _, rfl, hm2, rfl, ?_, ?_⟩
      · rw [Array.toList_push, pfAcc_yes hbit, ← hw]; exact strsAre_push hits
      · refine Or.inr fun e => hxr ?_
        rw [hxe, e, Int.zero_mul]
    · (rename Fr _ _ _ _ => Fe); (rename News _ _ _ _ => Ne)
      (rename (Builtin.bitAnd _ _ ≠ 0) => hb); (rename (Builtin.bitXor _ _ = 0) => hxr)
      rw [hAnd] at hb
      have hbit := pf_set hb
      have hxe : Builtin.bitXor fv (1 * 2 ^ Int.toNat (i : Int)) = x / 2 ^ (i + 1) * 2 ^ (i + 1) := by rw [← hfv]; exact pf_xor hbit
      have hw : flagWord (1 * 2 ^ Int.toNat (i : Int)) (baseText "0x" 16 (1 * 2 ^ Int.toNat (i : Int))) = pfW i := by unfold pfW; rw [one_pow]
      have hfin := pfWords_brk hpre.1 hpre.2 hbit (hxe ▸ hxr)
      have hlen := pfAcc_len (x := x) (i := i + 1) (by omega)
      rw [hfin] at hlen
      have hstr : ∀ tok, StrsAre (its.push (Value.str (flagWord (1 * 2 ^ Int.toNat (i : Int)) (baseText "0x" 16 (1 * 2 ^ Int.toNat (i : Int)))) tok)).toList (pfWords x) := by
        intro tok
        rw [← hfin, Array.toList_push, pfAcc_yes hbit, ← hw]; exact strsAre_push hits
      dsimp only
      k_steps
      refine Stop.mk ?_
      show wpAny _ _ (execs _ _) _ _ _
      k_steps
      (with_reducible show wpAny _ _ _ _ _ _)
      k_dflt (refine' join_list (News.isList Ne (List.mem_cons_of_mem _ (List.mem_singleton.mpr rfl))) (hstr _) (join_ok (by omega) hlen.2) ?_)
      intro t7 k7
      k_steps
      exact cp_retS (Q := Q) hret (by assumption) rfl
    · (rename Fr _ _ _ _ => Fe); (rename News _ _ _ _ => Ne)
      (rename (Builtin.bitAnd _ _ = 0) => hb)
      rw [hAnd] at hb
      have hbit := pf_unset hb
      refine Stop.mk ⟨_, _, _, _, rfl, Fe, Ne, hnI, its, n, tf, ?_, hm2, rfl, ?_, ?_⟩
      · rw [← pf_keep hbit, hfv]; exact hm1
      · rw [pfAcc_no hbit]; exact hits
      · refine hx0.imp id fun h e => h ?_
        have q := pf_keep hbit
        rw [e, Int.zero_mul] at q
        exact pf_zero q
  · rintro h4 tk4 m4 news4 F4 N4 ⟨its, n, tf, hm1, hm2, rfl, hits, hx0⟩
    have hsz : its.size ≤ 32 := by
      have q := hits.length
      have r := (pfAcc_len (x := x) (i := 32) (by omega)).1
      rw [Array.length_toList] at q
      omega
    clear F1 N1 F2 N2 hr hk2
    (with_reducible show wpAny _ _ _ _ _ _)
    have hx : x = 0 := by omega
    subst hx
    k_steps
    (rename News _ _ _ _ => Ne)
    (with_reducible show wpAny _ _ _ _ _ _)
    k_dflt (refine' join_list (ys := pfWords 0) (News.isList Ne (List.mem_singleton.mpr rfl)) ?_ (by decide +kernel) ?_)
    · rw [Array.toList_push]
      exact strsAre_push hits
    intro t7 k7
    k_steps
    exact cp_retS (Q := Q) hret (by assumption) rfl
  
end Mine
end
section
open PySem PySem.W PyProof.Rows
set_option Elab.async false
set_option maxRecDepth 100000
set_option maxHeartbeats 4000000
namespace Mine
def toldOf (x : Str) (most head : Int) : Str :=
  if most ≤ 80 then x
  else if most - head ≤ 57 then Txt.slice x none (some 5) ++ Str.ofString "[" ++ Str.ofString (toString (most - 68)) ++ Str.ofString " chars]" ++ Txt.slice x (some (most - 63)) none
  else (if 22 < head then Txt.slice x none (some 5) ++ Str.ofString "[" ++ Str.ofString (toString (head - 10)) ++ Str.ofString " chars]" ++ Txt.slice x (some (head - 5)) (some head) else Txt.slice x none (some head)) ++
    (if 58 < ((Txt.slice x (some head) none).length : Int) then Txt.slice (Txt.slice x (some head) none) none (some 41) ++ Str.ofString "[" ++ Str.ofString (toString (((Txt.slice x (some head) none).length : Int) - 46)) ++ Str.ofString " chars]" ++ Txt.slice (Txt.slice x (some head) none) (some (-5)) none else Txt.slice x (some head) none)
theorem spec_law_told (w : World) (mean : ExcName → Option Value) (mg mb : Str → Option Value) (x : Str) (t0 : Tok) (p q : Int) (t1 t2 : Tok) :
    CpL 5 w mean mg mb 152 (fun _ => 0 ≤ p ∧ 0 ≤ q ∧ p < 1000 ∧ q < 1000 ∧ x.length < 1000) [Value.str x t0, Value.int p t1, Value.int q t2] (fun t => Value.str (toldOf x p q) t) := by
  dsimp only [CpL]
  k_fill
  w_on
  intro dp un gd cn cs a ccd cl outer A₀ base h₀ L m s Q E B F X T hk hpre hd hu hret
  refine wpAny_call ?_
  k_dflt (refine' callP ?k1 ?k2 ?k3 ?k5 ?kA ?kF ?kK ?k6 ?k7 ?k8 ?k9 ?kB ?_ ?c2 ?c3 ?c4 ?c5; (case kA => exact rfl); (case kF => exact rfl); (case kK => assumption); (case k1 => k_asm); (case k2 => k_asm); (case k3 => k_asm); (case k5 => k_asm); (case k6 => k_is); (case k7 => k_is); (case k8 => ktr_room); (case k9 => first | exact BindsTo.of_eq rfl | exact binds_K (by k_in) rfl (by k_is) rfl rfl rfl); (case c5 => decide); (case kB => exact locs rfl); (case c2 => exact rfl); (case c3 => exact rfl); (case c4 => exact rfl); k_whole; intro L' h' F' N' B' X' T'; (try dsimp only); (try k_fold))
  k_steps
  all_goals (refine cp_retS (Q := Q) hret (by assumption) ?_; unfold toldOf; (repeat' (first | rw [if_pos (by assumption)] | rw [if_neg (by assumption)])))
end Mine
end
section
open PySem PySem.W PyProof.Rows
set_option Elab.async false
set_option maxRecDepth 100000
set_option maxHeartbeats 2000000
namespace Mine
open PySem PySem.Spec PySem.Calls
open PyProof.Rows.LCg (NsObj ns_obj)
noncomputable def lawStmt : Stmt := (PySem.Challenge.pw_om0040_01.main.body.drop 48).headD (.Pass ⟨0, 0, 0, 0⟩)
noncomputable def lawBody : List Stmt := match lawStmt with | .FunctionDef (body := b) .. => b | _ => []
noncomputable def lawScope : Scope := match lawStmt with | .FunctionDef (scope := b) .. => b | _ => default
noncomputable abbrev lawEnv (L fa : Addr) (cd : Value) : Env := envOfC (Str.ofString "law") lawScope L fa cd
/-- what the segments of the law share -/
abbrev LawAt (w : World) (L fa : Addr) (cd : Value) (k : Nat) (Q : Flow → Shared → Prop) (E : Value → Shared → Prop) (s : Shared) : Prop :=
  wpAny (model Challenge.rw_om0040_01.row.prog w) (callerA.deeper (lawEnv L fa cd)) (execs (lawBody.drop k) (lawEnv L fa cd)) Q E s
end Mine
end
section
open PySem PySem.W PyProof.Rows
set_option Elab.async false
set_option maxRecDepth 100000
set_option maxHeartbeats 2000000
namespace Mine
open PySem PySem.Spec PySem.Calls
open PyProof.Rows.LCg (NsObj ns_obj)
/-- a walk that hands out pairs -/
structure WalkP (prog : Program) (w : World) (A : Around) (I : Addr) (fp wr : List Addr) (n : Nat) (Pt : Nat → Value × Value → Prop) (St : Nat → Heap → Prop) (Mid : Nat → Addr → Heap → Prop) : Prop where
  sub : ∀ b ∈ wr, b ∈ fp
  frame : ∀ i h h', St i h → (∀ b ∈ fp, ∀ o, h.get? b = some o → h'.get? b = some o) → St i h'
  item : ∀ i (s : Shared) (Q : Option Value → Shared → Prop) (E : Value → Shared → Prop), i < n → St i s.heap →
    (∀ T (p : Value × Value) h' tk, Pt i p → h'.IsTuple T #[p.1, p.2] → Mid i T h' → (∀ b o, b ∉ wr → s.heap.get? b = some o → h'.get? b = some o) → Q (some (.ref T)) { s with heap := h', toks := tk }) →
    wpAny (model prog w) A (pyNext (.ref I)) Q E s
  go : ∀ (elts : List PySem.Expr) (k : Nat) (pos : Pos) i T (s : Shared) (Q : Unit → Shared → Prop) (E : Value → Shared → Prop), Mid i T s.heap →
    (∀ h', St (i + 1) h' → (∀ b o, b ∉ wr → s.heap.get? b = some o → h'.get? b = some o) → Q () { s with heap := h' }) →
    wpAny (model prog w) A (letOwnedTupleGo (.Tuple elts k pos) (.ref I) (.ref T)) Q E s
  apart : ∀ i T h, Mid i T h → T ∉ wr
  done : ∀ (s : Shared) (Q : Option Value → Shared → Prop) (E : Value → Shared → Prop), St n s.heap →
    (∀ h' tk, (∀ b o, b ∉ wr → s.heap.get? b = some o → h'.get? b = some o) → Q none { s with heap := h', toks := tk }) → wpAny (model prog w) A (pyNext (.ref I)) Q E s
  self : ∀ i (s : Shared) (Q : Value → Shared → Prop) (E : Value → Shared → Prop), St i s.heap → Q (.ref I) s → wpAny (model prog w) A (pyIter (.ref I)) Q E s
section
variable {prog : Program} {w : World} {A : Around} {s : Shared}
theorem loopP {elt target iter : PySem.Expr} {ifs : List PySem.Expr} {scope : Scope} {pos : Pos} {it acc : Value} {env : Env} {R : Result → Shared → Prop} (I : Nat → Shared → Prop)
    (turn : ∀ n s, I n s → wpAny (model prog w) A (pyNext it) (fun r s₁ => match r with
      | none => R (.ok .next) s₁
      | some v => wpAny (model prog w) A (letOwnedTupleGo target it v) (fun _ s₀ => wpAny (model prog w) A (assign target env v) (fun _ s₂ =>
          wpAny (model prog w) A (testsOf ifs env) (fun ok s₃ => if ok = true then wpAny (model prog w) A (eval elt env) (fun x s₄ =>
            wpAny (model prog w) A (call (.builtin "list.append") [acc, x]) (fun _ s₅ => ∃ m, m < n ∧ I m s₅) (notedBy (model prog w) A env fun e s' => R (.error e) s') s₄) (notedBy (model prog w) A env fun e s' => R (.error e) s') s₃
            else ∃ m, m < n ∧ I m s₃) (notedBy (model prog w) A env fun e s' => R (.error e) s') s₂)
          (notedBy (model prog w) A env fun e s' => R (.error e) s') s₀) (notedBy (model prog w) A env fun e s' => R (.error e) s') s₁) (notedBy (model prog w) A env fun e s' => R (.error e) s') s)
    (n : Nat) (h : I n s) : codeAny (model prog w) A (.compLoop (.ListComp elt [⟨target, iter, ifs, 0⟩] scope pos) 0 it acc env) R s := by
  refine codeAny_loop rfl I (fun n s hI => ?_) n h
  show wpAny _ A ((compTurn (.ListComp elt [⟨target, iter, ifs, 0⟩] scope pos) 0 it acc env).onRaise (fun x => do noteFrame x env; theTreesLotGoes x)) _ _ s
  refine wpAny_noted ?_
  rw [compTurn_list]
  refine wpAny_bind (wpAny_standAt (wpAny_bind (wpAny_mono (turn n s hI) (fun r s₁ h₁ => ?_) fun _ _ h' => h')))
  cases r with
  | none => exact wpAny_pure h₁
  | some v =>
    refine wpAny_bind (wpAny_mono h₁ (fun _ s₀ h₀' => ?_) fun _ _ h' => h')
    refine wpAny_bind (wpAny_mono h₀' (fun _ s₂ h₂ => wpAny_bind (wpAny_mono h₂ (fun ok s₃ h₃ => ?_) fun _ _ h' => h')) fun _ _ h' => h')
    cases ok with
    | false => exact wpAny_pure ⟨rfl, h₃⟩
    | true => exact wpAny_bind (wpAny_bind (wpAny_mono h₃ (fun x s₄ h₄ => wpAny_bind (wpAny_mono h₄ (fun _ s₅ h₅ => wpAny_pure (wpAny_pure ⟨rfl, h₅⟩)) fun _ _ h' => h')) fun _ _ h' => h'))
end
section
variable {prog : Program} {w : World} {A : Around} {h₀ : Heap} {E : Value → Shared → Prop} {L : Addr} {env : Env}
  {elt iter : PySem.Expr} {ifs : List PySem.Expr} {a b : Str} {pa pb tp pos : Pos} {kk : Nat} {sc : Scope} {cl : List (Str × Addr)} {I : Addr} {fp wr : List Addr} {n : Nat} {Pt : Nat → Value × Value → Prop} {St : Nat → Heap → Prop} {Mid : Nat → Addr → Heap → Prop} {m : Str → Option Value} {news : List (Addr × Obj)}
  {Rel : Value × Value → Value → Prop} {p : Value × Value → Bool} {s₂ : Shared} {RR : Value → Addr → Result → Shared → Prop}
theorem blockP (hh : A.handled = none) (W : WalkP prog w A I fp wr n Pt St Mid) (hsz : n ≤ sizeLine) (hst : St 0 s₂.heap) (hfp : ∀ b ∈ fp, b < s₂.heap.objs.size)
    (hcell : ∀ y ∈ sc.names, y.2 ≠ .cell) (hkind : sc.kind = .function) (hxa : sc.names.lookup a = some .local) (hxb : sc.names.lookup b = some .local) (hab : a ≠ b)
    (F : Fr h₀ L s₂.heap m) (N : News h₀ L s₂.heap news) (hIL : L ∉ wr) (hI₀ : ∀ b ∈ wr, h₀.get? b = none) (hIn : ∀ q ∈ news, q.1 ∉ wr)
    (htest : ∀ (C : Addr) (oC : Obj) (s₃ : Shared) m₃ (i : Nat) (v : Value × Value) E', Pt i v → NsObj oC m₃ → m₃ a = some v.1 → m₃ b = some v.2 → Fr h₀ L s₃.heap m → News h₀ L s₃.heap ((C, oC) :: news) → (∀ q ∈ news, q.1 ≠ C) →
      wpAny (model prog w) A (testsOf ifs (compEnvC sc cl C env)) (fun ok s₄ => ok = p v ∧ Keeps s₃ s₄) E' s₃)
    (helt : ∀ (C : Addr) (oC : Obj) (s₃ : Shared) m₃ (i : Nat) (v : Value × Value) E', Pt i v → p v = true → NsObj oC m₃ → m₃ a = some v.1 → m₃ b = some v.2 → Fr h₀ L s₃.heap m → News h₀ L s₃.heap ((C, oC) :: news) → (∀ q ∈ news, q.1 ≠ C) →
      wpAny (model prog w) A (eval elt (compEnvC sc cl C env)) (fun y s₄ => Stop (Rel v y ∧ Keeps s₃ s₄)) E' s₃)
    (hRR : ∀ (D C : Addr) h' tk m' ys nD (vs : List (Value × Value)), (∀ q ∈ news, q.1 ≠ D) → (∀ q ∈ news, q.1 ≠ C) → C ≠ D → C ≠ L → h₀.get? C = none → h'.Ns C m' → vs.length = n → (∀ (j : Nat) v, vs[j]? = some v → Pt j v) → Paired Rel (vs.filter p) ys.toList → Fr h₀ L h' m → News h₀ L h' ((D, listOf ys nD) :: news) →
      RR (.ref D) C (.ok .next) { s₂ with heap := h', toks := tk }) :
    wpAny (model prog w) A (newList []) (fun acc s₃ => wpAny (model prog w) A (newFunctionEnv sc env.globals cl [] env.qual none .none (some env)) (fun cenv s₄ =>
      codeAny (model prog w) A (.compStart (.ListComp elt [⟨.Tuple [.Name a pa, .Name b pb] kk tp, iter, ifs, 0⟩] sc pos) 0 (.ref I) acc { cenv with scope := relabel sc env }) (RR acc cenv.locals) s₄) E s₃) E s₂ := by
  refine wpAny_newObj_type (wpAny_newFunctionEnv hcell (by intro y hy; simp at hy) (fun h₁ hns₁ hsb₁ => ?_) hkind)
  dsimp only at hns₁ hsb₁ ⊢
  generalize hH2 : s₂.heap.push { cls := .type "list", dict := none, data := .seq ([] : List Value).toArray } = H2 at hns₁ hsb₁ ⊢
  have hC : H2.objs.size = s₂.heap.objs.size + 1 := by rw [← hH2, Heap.size_push]
  generalize hDe : s₂.heap.objs.size = D at *
  generalize hCe : H2.objs.size = C at *
  have hDC : D ≠ C := by rw [hC]; exact Nat.ne_of_lt (Nat.lt_succ_self _)
  have below : ∀ b, b < D → b ≠ C ∧ b ≠ D := fun b hb => ⟨by rw [hC]; exact Nat.ne_of_lt (Nat.lt_succ_of_lt hb), Nat.ne_of_lt hb⟩
  have lt : ∀ {b o}, s₂.heap.get? b = some o → b < D := fun e => hDe ▸ Heap.lt_size e
  have old : ∀ b o, s₂.heap.get? b = some o → h₁.get? b = some o := fun b o e => hsb₁.extBut b o (below b (lt e)).1 (Heap.get?_push_of_some _ (hH2 ▸ Heap.get?_push_of_some _ e))
  have hacc : h₁.get? D = some (listOf #[] 0) := hsb₁.extBut _ _ hDC (Heap.get?_push_of_some _ (by rw [← hH2, ← hDe]; exact Heap.get?_push_size _ rfl))
  have hst₁ : St 0 h₁ := W.frame _ _ _ hst fun b _ o e => old b o e
  have hDf : D ∉ fp := fun q => Nat.lt_irrefl _ (hfp D q)
  have hCf : C ∉ fp := fun q => by have := hfp C q; rw [hC] at this; exact Nat.lt_irrefl _ (Nat.lt_of_succ_lt this)
  have hDw : D ∉ wr := fun q => hDf (W.sub _ q)
  have hCw : C ∉ wr := fun q => hCf (W.sub _ q)
  have fresh : ∀ {c : Addr}, D ≤ c → s₂.heap.get? c = none := fun hc => Heap.get?_none_of_le (hDe ▸ hc)
  have newA : ∀ {c : Addr}, D ≤ c → c ≠ L ∧ h₀.get? c = none ∧ ∀ q ∈ news, q.1 ≠ c := fun {c} hc => by
    refine ⟨fun e => ?_, ?_, fun q hq e => ?_⟩
    · have := F.ns.lt; rw [hDe] at this; rw [← e] at this; exact absurd this (Nat.not_lt.mpr hc)
    · cases e : h₀.get? c with
      | none => rfl
      | some o => have := F.keep _ _ e; rw [fresh hc] at this; cases this
    · have := lt (N q hq).1; rw [e] at this; exact absurd this (Nat.not_lt.mpr hc)
  obtain ⟨hDL, hD₀, hDn⟩ := newA (Nat.le_refl D)
  obtain ⟨hCL, hC₀, hCn⟩ := newA (c := C) (by rw [hC]; exact Nat.le_succ _)
  have frOf : ∀ {h' : Heap}, (∀ b o, b ≠ C → b ∉ wr → b ≠ D → s₂.heap.get? b = some o → h'.get? b = some o) → Fr h₀ L h' m ∧ News h₀ L h' news := fun hk =>
    ⟨⟨F.ns.at' fun o e => hk L o (Ne.symm hCL) hIL (Ne.symm hDL) e, fun b o e => hk b o (fun q => by rw [q, hC₀] at e; cases e) (fun q => by rw [hI₀ b q] at e; cases e) (fun q => by rw [q, hD₀] at e; cases e) (F.keep b o e), F.above⟩,
      fun q hq => ⟨hk _ _ (hCn q hq) (hIn q hq) (hDn q hq) (N q hq).1, (N q hq).2⟩⟩
  have loop : ∀ s₃ : Shared, s₃ = { s₂ with heap := h₁, toks := s₂.toks + ([] : List (Str × Value)).length } →
      codeAny (model prog w) A (.compLoop (.ListComp elt [⟨.Tuple [.Name a pa, .Name b pb] kk tp, iter, ifs, 0⟩] sc pos) 0 (.ref I) (.ref D) (compEnvC sc cl C env))
        (RR (.ref D) C) s₃ := by
    rintro s₃ rfl
    refine loopP
      (fun k s' => ∃ h' tk m' ys c, ∃ vs : List (Value × Value), s' = { s₂ with heap := h', toks := tk } ∧ St vs.length h' ∧ h'.get? D = some (listOf ys c) ∧ h'.Ns C m' ∧ (∀ (j : Nat) v, vs[j]? = some v → Pt j v) ∧
        Paired Rel (vs.filter p) ys.toList ∧ vs.length ≤ n ∧ k = n + 1 - vs.length ∧ (∀ b o, b ≠ C → b ∉ wr → b ≠ D → s₂.heap.get? b = some o → h'.get? b = some o)) ?_ (n + 1)
      ⟨h₁, _, _, #[], 0, [], rfl, hst₁, hacc, hns₁, by simp, .nil, Nat.zero_le _, rfl, fun b o _ _ _ e => old b o e⟩
    rintro k s' ⟨H, tk, m', ys, c, vs, rfl, hst', hacc', hn', hP, hF, hi, rfl, hk⟩
    by_cases hlt : vs.length < n
    · refine W.item vs.length _ _ _ hlt hst' fun T v h₂ tk₂ hPv hT₂ hMid hk₂ => ?_
      refine W.go _ _ _ vs.length T _ _ _ hMid fun h₃ hst₃ hk₃ => ?_
      have hT₃ : h₃.IsTuple T #[v.1, v.2] := hT₂.at fun o e => hk₃ _ o (W.apart _ _ _ hMid) e
      have up₃ : ∀ b o, b ∉ wr → H.get? b = some o → h₃.get? b = some o := fun b o hb e => hk₃ b o hb (hk₂ b o hb e)
      refine kcp_assign (env := compEnvC sc cl C env) hh hT₃ (lookup_relabel_local hxa) (lookup_relabel_local hxb) (by simp [compEnvC, relabel, hkind]) (hn'.at' fun o e => up₃ _ o hCw e) fun h₄ tk₄ hn₄ hs₄ => ?_
      have up₄ : ∀ b o, b ≠ C → b ∉ wr → H.get? b = some o → h₄.get? b = some o := fun b o hb hbw e => hs₄ b o hb (up₃ b o hbw e)
      have hst₄ : St (vs.length + 1) h₄ := W.frame _ _ _ hst₃ fun b hb o e => hs₄ b o (fun q => hCf (by have q' : b = C := q; rw [← q']; exact hb)) e
      have hk₄ : ∀ b o, b ≠ C → b ∉ wr → b ≠ D → s₂.heap.get? b = some o → h₄.get? b = some o := fun b o h1 h2 h3 e => up₄ b o h1 h2 (hk b o h1 h2 h3 e)
      have hacc₄ : h₄.get? D = some (listOf ys c) := up₄ D _ hDC hDw hacc'
      obtain ⟨F₄, N₄⟩ := frOf hk₄
      obtain ⟨oC, heC, hoC⟩ := ns_obj hn₄
      have NC : News h₀ L h₄ ((C, oC) :: news) := fun q hq => by
        rcases List.mem_cons.mp hq with rfl | hq
        · exact ⟨heC, hCL, hC₀⟩
        · exact N₄ q hq
      have snoc : ∀ (j : Nat) u, (vs ++ [v])[j]? = some u → Pt j u := fun j u hj => by
        by_cases hjl : j < vs.length
        · rw [List.getElem?_append_left hjl] at hj; exact hP j u hj
        · rw [List.getElem?_append_right (Nat.not_lt.mp hjl)] at hj
          have hj0 : j - vs.length = 0 := by
            cases hq : j - vs.length with
            | zero => rfl
            | succ q => rw [hq] at hj; simp at hj
          rw [hj0] at hj
          cases hj
          have : j = vs.length := by omega
          rw [this]; exact hPv
      have hlen1 : (vs ++ [v]).length = vs.length + 1 := by simp
      refine wpAny_mono (htest C oC _ _ vs.length v _ hPv hoC (by simp [hab]) (by simp) F₄ NC hCn) (fun ok s₅ h₅ => ?_) fun _ _ e => e
      obtain ⟨rfl, h₅, tk₅, rfl, hk₅⟩ := h₅
      have hst₅ : St (vs.length + 1) h₅ := W.frame _ _ _ hst₄ fun b _ o e => hk₅ b o e
      have hn₅ := hn₄.keeps hk₅
      have hacc₅ := hk₅ _ _ hacc₄
      have hall₅ : ∀ b o, b ≠ C → b ∉ wr → b ≠ D → s₂.heap.get? b = some o → h₅.get? b = some o := fun b o h1 h2 h3 e => hk₅ b o (hk₄ b o h1 h2 h3 e)
      cases hpv : p v with
      | false =>
        simp only [Bool.false_eq_true, if_false]
        refine ⟨n + 1 - (vs.length + 1), by omega, h₅, tk₅, _, ys, c, vs ++ [v], rfl, hlen1 ▸ hst₅, hacc₅, hn₅, snoc, ?_, by rw [hlen1]; omega, by rw [hlen1], hall₅⟩
        rw [List.filter_append, List.filter_cons_of_neg (by rw [hpv]; exact Bool.false_ne_true)]
        simpa using hF
      | true =>
        simp only [if_true]
        obtain ⟨F₅, N₅⟩ := frOf hall₅
        have NC₅ : News h₀ L h₅ ((C, oC) :: news) := fun q hq => by
          rcases List.mem_cons.mp hq with rfl | hq
          · exact ⟨hk₅ _ _ heC, hCL, hC₀⟩
          · exact N₅ q hq
        refine wpAny_mono (helt C oC _ _ vs.length v _ hPv hpv hoC (by simp [hab]) (by simp) F₅ NC₅ hCn) (fun y s₆ h₆ => ?_) fun _ _ e => e
        obtain ⟨hy, h₆, tk₆, rfl, hk₆⟩ := h₆.out
        have hys : ys.size ≤ sizeLine := by
          have e1 := hF.length
          have e2 : (vs.filter p).length ≤ vs.length := List.length_filter_le _ _
          have e4 : ys.toList.length = ys.size := by simp
          omega
        refine append_at (hsz := hys) (hk₆ _ _ hacc₅) fun h₇ hs₇ hD₇ => ?_
        refine ⟨n + 1 - (vs.length + 1), by omega, h₇, tk₆, _, ys.push y, c + 1, vs ++ [v], rfl, ?_, hD₇, (hn₅.keeps hk₆).sameBut hs₇ (Ne.symm hDC), snoc, ?_, by rw [hlen1]; omega, by rw [hlen1], fun b o h1 h2 h3 e => hs₇.extBut b o h3 (hk₆ b o (hall₅ b o h1 h2 h3 e))⟩
        · rw [hlen1]; exact W.frame _ _ _ hst₅ fun b hb o e => hs₇.extBut b o (fun q => hDf (q ▸ hb)) (hk₆ b o e)
        · rw [List.filter_append, List.filter_cons_of_pos hpv, Array.toList_push]
          exact Paired.snoc hF hy
    · have hin : vs.length = n := by omega
      refine W.done _ _ _ (hin ▸ hst') fun h₂ tk₂ hk₂ => ?_
      obtain ⟨F₂, N₂⟩ := frOf (h' := h₂) fun b o h1 h2 h3 e => hk₂ b o h2 (hk b o h1 h2 h3 e)
      refine hRR D C h₂ tk₂ _ ys c vs hDn hCn (Ne.symm hDC) hCL hC₀ (hn'.at' fun o e => hk₂ _ o hCw e) hin hP hF F₂ fun q hq => ?_
      rcases List.mem_cons.mp hq with rfl | hq
      · exact ⟨hk₂ _ _ hDw hacc', hDL, hD₀⟩
      · exact N₂ q hq
  exact codeAny_compStart_list (loop _ rfl) (W.self 0 _ _ _ hst₁ (loop _ rfl))
/-- what must be known of the source of a comprehension whose target is a pair -/
def PairSrc (prog : Program) (w : World) (A : Around) (h₀ : Heap) (L : Addr) (env : Env) (elt : PySem.Expr) (ifs : List PySem.Expr) (a b : Str) (sc : Scope) (cl : List (Str × Addr)) (m : Str → Option Value)
    (R : Addr → Heap → Nat → Array Value → Nat → List (Addr × Obj) → Prop) (it : Value) (s₂ : Shared) : Prop :=
  ∃ (I : Addr) (fp wr : List Addr) (n : Nat) (Pt : Nat → Value × Value → Prop) (St : Nat → Heap → Prop) (Mid : Nat → Addr → Heap → Prop) (news : List (Addr × Obj)) (Rel : Value × Value → Value → Prop) (p : Value × Value → Bool), it = .ref I ∧
    WalkP prog w A I fp wr n Pt St Mid ∧ n ≤ sizeLine ∧ St 0 s₂.heap ∧ (∀ b ∈ fp, b < s₂.heap.objs.size) ∧ Fr h₀ L s₂.heap m ∧ News h₀ L s₂.heap news ∧ L ∉ wr ∧ (∀ b ∈ wr, h₀.get? b = none) ∧ (∀ q ∈ news, q.1 ∉ wr) ∧
    (∀ (C : Addr) (oC : Obj) (s₃ : Shared) m₃ (i : Nat) (v : Value × Value) E', Pt i v → NsObj oC m₃ → m₃ a = some v.1 → m₃ b = some v.2 → Fr h₀ L s₃.heap m → News h₀ L s₃.heap ((C, oC) :: news) → (∀ q ∈ news, q.1 ≠ C) →
      wpAny (model prog w) A (testsOf ifs (compEnvC sc cl C env)) (fun ok s₄ => ok = p v ∧ Keeps s₃ s₄) E' s₃) ∧
    (∀ (C : Addr) (oC : Obj) (s₃ : Shared) m₃ (i : Nat) (v : Value × Value) E', Pt i v → p v = true → NsObj oC m₃ → m₃ a = some v.1 → m₃ b = some v.2 → Fr h₀ L s₃.heap m → News h₀ L s₃.heap ((C, oC) :: news) → (∀ q ∈ news, q.1 ≠ C) →
      wpAny (model prog w) A (eval elt (compEnvC sc cl C env)) (fun y s₄ => Stop (Rel v y ∧ Keeps s₃ s₄)) E' s₃) ∧
    (∀ (D : Addr) h' tk ys nD (vs : List (Value × Value)), (∀ q ∈ news, q.1 ≠ D) → vs.length = n → (∀ (j : Nat) v, vs[j]? = some v → Pt j v) → Paired Rel (vs.filter p) ys.toList → R D h' tk ys nD news)
theorem listCompP {s : Shared} {Q : Value → Shared → Prop} (hh : A.handled = none) (hclos : closureFor sc env = pure cl)
    (hcell : ∀ y ∈ sc.names, y.2 ≠ .cell) (hkind : sc.kind = .function) (hnames : ∀ y ∈ sc.names, y.2 = .local → sc.names.lookup y.1 = some .local) (hxa : sc.names.lookup a = some .local) (hxb : sc.names.lookup b = some .local) (hab : a ≠ b)
    (h : wpAny (model prog w) A (eval iter env) (fun xv s₁ => wpAny (model prog w) A (pyIter xv) (fun it s₂ => PairSrc prog w A h₀ L env elt ifs a b sc cl m (fun D h' tk ys nD news => Fr h₀ L h' m → News h₀ L h' ((D, listOf ys nD) :: news) → Q (.ref D) { s₂ with heap := h', toks := tk }) it s₂) E s₁) E s)
    (hs : ∀ x, foldedSetIterable iter env x = pure x := by intro _; rfl) :
    wpAny (model prog w) A (eval (.ListComp elt [⟨.Tuple [.Name a pa, .Name b pb] kk tp, iter, ifs, 0⟩] sc pos) env) Q E s := by
  rw [eval_ListComp]
  refine wpAny_comprehension_free (use := none) rfl hs hclos hkind hnames (wpAny_mono h (fun xv s₁ h₁ => wpAny_mono h₁ (fun it s₂ h₂ => ?_) fun _ _ e => e) fun _ _ e => e)
  obtain ⟨I, fp, wr, n, Pt, St, Mid, news, Rel, p, rfl, W, hsz, hst, hfp, F, N, hIL, hI₀, hIn, ht, he, hQ⟩ := h₂
  refine blockP hh W hsz hst hfp hcell hkind hxa hxb hab F N hIL hI₀ hIn ht he ?_
  intro D C h' tk m' ys nD vs hDn hCn hCD hCL hC₀ hns hlen hP hF F' N'
  refine ⟨m', hns, fun h'' hs'' => hQ D h'' tk ys nD vs hDn hlen hP hF (F'.change hs'' hCL hC₀) fun q hq => ⟨hs''.extBut _ _ ?_ (N' q hq).1, (N' q hq).2⟩⟩
  rcases List.mem_cons.mp hq with rfl | hq
  · exact Ne.symm hCD
  · exact hCn q hq
theorem assignCompP {s : Shared} {y : Str} {py spos : Pos} {Q : Flow → Shared → Prop} (hh : A.handled = none) (hLe : env.locals = L)
    (hsw : swapsWith (.ListComp elt [⟨.Tuple [.Name a pa, .Name b pb] kk tp, iter, ifs, 0⟩] sc pos) (some (.Name y py)) spos.line env = pure true) (hclos : closureFor sc env = pure cl)
    (hcell : ∀ y ∈ sc.names, y.2 ≠ .cell) (hkind : sc.kind = .function) (hnames : ∀ y ∈ sc.names, y.2 = .local → sc.names.lookup y.1 = some .local) (hxa : sc.names.lookup a = some .local) (hxb : sc.names.lookup b = some .local) (hab : a ≠ b)
    (hy : env.kindOf y = some .local) (hp : (env.scope.kind == .class || (env.scope.kind == .module && env.locals != env.globals)) = false)
    (h : wpAny (model prog w) A (eval iter env) (fun xv s₁ => wpAny (model prog w) A (pyIter xv) (fun it s₂ => PairSrc prog w A h₀ L env elt ifs a b sc cl m (fun D h' tk ys nD news => Fr h₀ L h' (fun z => if z = y then some (.ref D) else m z) → News h₀ L h' ((D, listOf ys nD) :: news) → Q .next { s₂ with heap := h', toks := tk }) it s₂) E s₁) E s)
    (hs : ∀ x, foldedSetIterable iter env x = pure x := by intro _; rfl) :
    wpAny (model prog w) A (exec (.Assign [.Name y py] (.ListComp elt [⟨.Tuple [.Name a pa, .Name b pb] kk tp, iter, ifs, 0⟩] sc pos) spos) env) Q E s := by
  subst hLe
  rw [exec_Assign_Name_used _ _ _ _ hsw]
  refine wpAny_bind (wpAny_standAt (wpAny_bind ?_))
  show wpAny _ A (do let _ ← comprehension (.ListComp elt [⟨.Tuple [.Name a pa, .Name b pb] kk tp, iter, ifs, 0⟩] sc pos) sc env _ (newList []) false (eval iter env) (some (assign (.Name y py) env))) _ _ s
  refine wpAny_bind (wpAny_mono (wpAny_comprehension_free (use := some (assign (.Name y py) env)) (Q := fun _ s' => Q .next s') rfl hs hclos hkind hnames
    (wpAny_mono h (fun xv s₁ h₁ => wpAny_mono h₁ (fun it s₂ h₂ => ?_) fun _ _ e => e) fun _ _ e => e)) (fun _ s' hq => wpAny_pure (wpAny_pure hq)) fun _ _ e => e)
  obtain ⟨I, fp, wr, n, Pt, St, Mid, news, Rel, p, rfl, W, hsz, hst, hfp, F, N, hIL, hI₀, hIn, ht, he, hQ⟩ := h₂
  refine blockP hh W hsz hst hfp hcell hkind hxa hxb hab F N hIL hI₀ hIn ht he ?_
  intro D C h' tk m' ys nD vs hDn hCn hCD hCL hC₀ hns hlen hP hF F' N'
  show wpAny _ A (assign (.Name y py) env (.ref D)) _ _ _
  refine wpAny_assign_Name (wpAny_storeName_local hy F'.ns (fun h₃ hn₃ hs₃ => ?_) hp)
  have F₃ := F'.set hn₃ hs₃
  have N₃ := N'.set hs₃
  refine ⟨m', hns.sameBut hs₃ hCL, fun h'' hs'' => hQ D h'' _ ys nD vs hDn hlen hP hF (F₃.change hs'' hCL hC₀) fun q hq => ⟨hs''.extBut _ _ ?_ (N₃ q hq).1, (N₃ q hq).2⟩⟩
  rcases List.mem_cons.mp hq with rfl | hq
  · exact Ne.symm hCD
  · exact hCn q hq
end
theorem WalkP.ofT {prog : Program} {w : World} {A : Around} {I : Addr} {fp wr : List Addr} {n : Nat} {Pt : Nat → Array Value → Prop} {St : Nat → Heap → Prop} {Mid : Nat → Addr → Heap → Prop} {Pp : Nat → Value × Value → Prop}
    (W : WalksT prog w A I fp wr n Pt St Mid) (hP : ∀ i vals, Pt i vals → ∃ p : Value × Value, vals = #[p.1, p.2] ∧ Pp i p) : WalkP prog w A I fp wr n Pp St Mid where
  sub := W.sub
  frame := W.frame
  item := fun i s Q E hi st hQ => W.item i s Q E hi st fun T vals h' tk hv _ hT hM hk => by
    obtain ⟨p, rfl, hp⟩ := hP i vals hv
    exact hQ T p h' tk hp hT hM hk
  go := W.go
  apart := W.apart
  done := W.done
  self := W.self
theorem WalkP.listTup {prog : Program} {w : World} {A : Around} (hh : A.handled = none) (I ax : Addr) (hne : ax ≠ I) (rows : List (Addr × Value × Value)) (hr : ∀ r ∈ rows, r.1 ≠ I) :
    WalkP prog w A I (I :: ax :: rows.map (·.1)) [I] rows.length (fun i p => ∃ r, rows[i]? = some r ∧ p = r.2)
      (fun i h => h.IsListIter I ax i ∧ h.IsList ax (rows.map fun r => Value.ref r.1).toArray ∧ ∀ r ∈ rows, h.IsTuple r.1 #[r.2.1, r.2.2])
      (fun i T h => (h.IsListIter I ax (i + 1) ∧ h.IsList ax (rows.map fun r => Value.ref r.1).toArray ∧ ∀ r ∈ rows, h.IsTuple r.1 #[r.2.1, r.2.2]) ∧ T ≠ I) where
  sub := fun b hb => by rw [List.mem_singleton.mp hb]; exact List.mem_cons_self ..
  frame := fun i h h' st hk => ⟨st.1.at fun o e => hk I (by simp) o e, st.2.1.at fun o e => hk ax (by simp) o e, fun r hm => (st.2.2 r hm).at fun o e => hk r.1 (List.mem_cons_of_mem _ (List.mem_cons_of_mem _ (List.mem_map_of_mem hm))) o e⟩
  item := fun i s Q E hi st hQ => by
    have W := Walks.list (prog := prog) (w := w) hh I ax hne (rows.map fun r => Value.ref r.1).toArray
    refine W.item i s Q E (by simpa using hi) ⟨st.1, st.2.1⟩ fun v h' tk hv st' hk => ?_
    have hri : rows[i]? = some rows[i] := List.getElem?_eq_getElem hi
    have hv' : v = .ref rows[i].1 := by
      have hv1 : (rows.map fun r => Value.ref r.1).toArray[i]? = some v := hv
      rw [List.getElem?_toArray, List.getElem?_map, hri] at hv1
      exact (Option.some.inj hv1).symm
    subst hv'
    have up : ∀ r ∈ rows, h'.IsTuple r.1 #[r.2.1, r.2.2] := fun r hm => (st.2.2 r hm).at fun o e => hk _ _ (fun q => hr r hm (List.mem_singleton.mp q)) e
    exact hQ _ rows[i].2 h' tk ⟨_, hri, rfl⟩ (up _ (List.getElem_mem hi)) ⟨⟨st'.1, st'.2, up⟩, hr _ (List.getElem_mem hi)⟩ hk
  go := fun elts k pos i T s Q E hM hQ => wpAny_letOwnedTupleGo_listiter hM.1.1 (hQ _ hM.1 fun _ _ _ e => e)
  apart := fun i T h hM q => hM.2 (List.mem_singleton.mp q)
  done := fun s Q E st hQ => by
    have W := Walks.list (prog := prog) (w := w) hh I ax hne (rows.map fun r => Value.ref r.1).toArray
    exact W.done s Q E (by simpa using ⟨st.1, st.2.1⟩) hQ
  self := fun i s Q E st hQ => by
    have W := Walks.list (prog := prog) (w := w) hh I ax hne (rows.map fun r => Value.ref r.1).toArray
    exact W.self i s Q E ⟨st.1, st.2.1⟩ hQ
end Mine
end
section
open PySem PySem.W PyProof.Rows
set_option Elab.async false
set_option maxRecDepth 100000
set_option maxHeartbeats 2000000
namespace Mine
open PySem PySem.Spec PySem.Calls
open PyProof.Rows.LCg (NsObj ns_obj)
section
variable {prog : Program} {w : World} {A : Around} {E : Value → Shared → Prop} {s : Shared} {h₀ : Heap} {L : Addr} {m : Str → Option Value} {news : List (Addr × Obj)}
theorem sliceK {value slice : PySem.Expr} {l : Addr} {items : Array Value} {vl vu vk : Value} {lo hi st : Option Int} {ops : List Value} {Q : Value → Shared → Prop}
    (F : Fr h₀ L s.heap m) (N : News h₀ L s.heap news) (hl : s.heap.IsList l items) (pl : IsPart vl lo) (pu : IsPart vu hi) (pk : IsPart vk st) (h0 : st ≠ some 0)
    (h : ∀ (D : Addr) h', Fr h₀ L h' m → News h₀ L h' ((D, listOf (slicePick items lo hi st) 0) :: news) → s.heap.StaysIn h' → (∀ q ∈ news, q.1 ≠ D) → Q (.ref D) { s with heap := h' })
    (hs : subscripted slice false (.ref l) (.ref s.heap.objs.size) = operate ops (getItem (.ref l) (.ref s.heap.objs.size)) := by with_unfolding_all rfl)
    (ht : ∀ r, letTemporaryGo value (.ref l) r = pure () := by intro _; with_unfolding_all rfl)
    (hsz : items.size ≤ sizeLine := by size_fits) :
    wpAny (model prog w) A (subscriptTail value slice (.ref l) (.ref s.heap.objs.size)) Q E { s with heap := s.heap.push { cls := .type "slice", data := .fields #[vl, vu, vk] } } := by
  refine subscriptTail_ops (Heap.IsList.typeIs (s := { s with heap := s.heap.push { cls := .type "slice", data := .fields #[vl, vu, vk] } }) (hl.push _)) list_getitem_lookup
    (wpAny_getItem_list_slice (hl.push _) (Heap.IsSliceOf.new ..) pl pu pk h0 ?_ hsz) hs ht
  have N1 := News.push (F.push { cls := .type "slice", data := .fields #[vl, vu, vk] }) (N.grown fun _ _ e => Heap.get?_push_of_some _ e) { cls := .type "list", data := .seq (slicePick items lo hi st) }
  rw [Heap.size_push] at N1
  show Q (.ref (s.heap.push _).objs.size) _
  rw [Heap.size_push]
  exact h _ _ ((F.push _).push _) N1 (fun b o e => Heap.get?_push_of_some _ (Heap.get?_push_of_some _ e)) fun q hq => Nat.ne_of_lt (Nat.lt_succ_of_lt (Heap.lt_size (N q hq).1))
theorem intsAt {vs : List Value} {ns : List Int} (h : IntsAre vs ns) : ∀ (i : Nat) v, vs[i]? = some v → ∃ t, v = .int (ns.getD i 0) t := by
  induction h with
  | nil => intro i v hv; simp at hv
  | cons a t _ ih =>
    intro i v hv
    cases i with
    | zero => simp at hv; exact ⟨t, by rw [← hv]; rfl⟩
    | succ i => simpa using ih i v (by simpa using hv)
theorem sumK {l : Addr} {vs : List Value} {ns : List Int} {Q : Value → Shared → Prop} (hh : A.handled = none) (hl : s.heap.IsList l vs.toArray) (hi : IntsAre vs ns) (F : Fr h₀ L s.heap m) (N : News h₀ L s.heap news)
    (h : ∀ h' tk k t, Fr h₀ L h' m → News h₀ L h' news → s.heap.StaysIn h' → Q (.int k t) { s with heap := h', toks := tk }) : wpAny (model prog w) A (call (.builtin "sum") [.ref l]) Q E s := by
  refine call_sum_walkG ?_
  refine iterList (A := A.in1) hh hl F N fun I s₂ he W hst hfp hLI hI0 hIn F₂ N₂ up hI => ?_
  obtain ⟨h2, rfl⟩ := he
  refine ⟨I, _, _, _, _, _, fun i => ns.getD i 0, rfl, W, hst, hfp, fun i v hv => intsAt hi i v (by simpa using hv), fun h' tk t' hk => ?_⟩
  have st : s.heap.StaysIn h' := fun b o e => hk b o (fun q => by rw [List.mem_singleton.mp q, hI] at e; cases e) (up b o e)
  exact h h' tk _ t' (frKeep F st) (newsKeep N st) st
abbrev enumObj (it : Addr) : Obj := { cls := .type "enumerate", dict := none, data := .fields #[.none, .bool false, .ref it, rawInt 0, .none, .none], slots := #[] }
theorem enumL {p : Addr} {items : Array Value} {Q : Value → Shared → Prop} (hT : s.heap.IsTuple p items) (F : Fr h₀ L s.heap m) (N : News h₀ L s.heap news)
    (h : ∀ (e it : Addr) oI h', Fr h₀ L h' m → News h₀ L h' ((e, enumObj it) :: (it, oI) :: news) → oI.cls = .type "tuple_iterator" → oI.data = .fields #[.ref p, .int 0 0] → e ≠ it → p ≠ e → p ≠ it → (∀ q ∈ news, q.1 ≠ it) → (∀ q ∈ news, q.1 ≠ e) → Q (.ref e) { s with heap := h' }) :
    wpAny (model prog w) A (call (.type "enumerate") [.ref p]) Q E s := by
  refine call_enumT hT fun h' he hit hsz up => ?_
  have e1 : @Ne Nat (s.heap.objs.size + 1) s.heap.objs.size := by omega
  have fr : ∀ k, s.heap.get? (s.heap.objs.size + k) = none := fun k => Heap.get?_none_of_le (Nat.le_add_right _ _)
  have hp : p < s.heap.objs.size := by obtain ⟨o, e, _⟩ := hT; exact Heap.lt_size e
  have new : ∀ k, s.heap.objs.size + k ≠ L ∧ h₀.get? (s.heap.objs.size + k) = none := fun k => by
    refine ⟨fun q => ?_, ?_⟩
    · obtain ⟨oL, _, _, hL, _⟩ := F.ns
      have := fr k
      rw [q, hL] at this; cases this
    · cases q : h₀.get? (s.heap.objs.size + k) with
      | none => rfl
      | some o => have := F.keep _ _ q; rw [fr k] at this; cases this
  obtain ⟨oI, heI, hc, hd⟩ := hit
  refine h (s.heap.objs.size + 1) s.heap.objs.size oI h' (frKeep F up) ?_ hc hd e1 (Nat.ne_of_lt (Nat.lt_succ_of_lt hp)) (Nat.ne_of_lt hp) (fun q hq => Nat.ne_of_lt (Heap.lt_size (N q hq).1)) (fun q hq => Nat.ne_of_lt (Nat.lt_succ_of_lt (Heap.lt_size (N q hq).1)))
  intro q hq
  rcases List.mem_cons.mp hq with rfl | hq
  · exact ⟨he, new 1⟩
  rcases List.mem_cons.mp hq with rfl | hq
  · exact ⟨heI, new 0⟩
  · exact newsKeep N up q hq
/-- enumerate over a tuple of the ledger, as the source of a comprehension -/
theorem enumWalk {e it p : Addr} {items : Array Value} {oI : Obj} (hh : A.handled = none) (F : Fr h₀ L s.heap m) (N : News h₀ L s.heap ((e, enumObj it) :: (it, oI) :: news)) (hT : s.heap.IsTuple p items) (hc : oI.cls = .type "tuple_iterator") (hd : oI.data = .fields #[.ref p, .int 0 0])
    (hei : e ≠ it) (hpe : p ≠ e) (hpi : p ≠ it) :
    WalkP prog w A e (e :: [it, p]) [e, it] items.size (fun i v => ∃ t, items[i]? = some v.2 ∧ v.1 = .int i t) (fun i h => (∃ old, IsEnum h e it i old) ∧ h.IsTupleIter it p i ∧ h.IsTuple p items) (fun i T h => (∃ x, IsEnumOut h e it ((i : Int) + 1) x T) ∧ (h.IsTupleIter it p (i + 1) ∧ h.IsTuple p items) ∧ T ≠ e ∧ T ≠ it) ∧
    ((∃ old, IsEnum s.heap e it 0 old) ∧ s.heap.IsTupleIter it p 0 ∧ s.heap.IsTuple p items) ∧ (∀ b ∈ e :: [it, p], b < s.heap.objs.size) := by
  have he := N (e, enumObj it) (List.mem_cons_self ..)
  have hi := N (it, oI) (List.mem_cons_of_mem _ (List.mem_cons_self ..))
  refine ⟨WalkP.ofT (WalksT.enumerateD (drawsTup (A := A.in1) hh it p hpi items) e hei ?_ (List.mem_cons_self ..)) ?_, ⟨⟨_, he.1⟩, ⟨_, hi.1, hc, hd⟩, hT⟩, ?_⟩
  · intro q
    rcases List.mem_cons.mp q with q | q
    · exact hei q
    · exact hpe (List.mem_singleton.mp q).symm
  · rintro i vals ⟨t, x, hx, rfl⟩
    exact ⟨(.int i t, x), rfl, t, hx, rfl⟩
  · intro b hb
    rcases List.mem_cons.mp hb with rfl | hb
    · exact Heap.lt_size he.1
    rcases List.mem_cons.mp hb with rfl | hb
    · exact Heap.lt_size hi.1
    · rw [List.mem_singleton.mp hb]
      obtain ⟨o, ho, _⟩ := hT
      exact Heap.lt_size ho
theorem enumPair {env : Env} {elt : PySem.Expr} {ifs : List PySem.Expr} {a b : Str} {sc : Scope} {cl : List (Str × Addr)} {R : Addr → Heap → Nat → Array Value → Nat → List (Addr × Obj) → Prop} {e it p : Addr} {items : Array Value} {oI : Obj}
    (Rel : Value × Value → Value → Prop) (pz : Value × Value → Bool) (hh : A.handled = none) (F : Fr h₀ L s.heap m) (N : News h₀ L s.heap ((e, enumObj it) :: (it, oI) :: news)) (hT : s.heap.IsTuple p items) (hc : oI.cls = .type "tuple_iterator") (hd : oI.data = .fields #[.ref p, .int 0 0])
    (hei : e ≠ it) (hpe : p ≠ e) (hpi : p ≠ it) (hni : ∀ q ∈ news, q.1 ≠ it) (hne : ∀ q ∈ news, q.1 ≠ e) (hsz : items.size ≤ sizeLine)
    (htest : ∀ (C : Addr) (oC : Obj) (s₃ : Shared) m₃ (i : Nat) (v : Value × Value) E', (∃ t, items[i]? = some v.2 ∧ v.1 = .int i t) → NsObj oC m₃ → m₃ a = some v.1 → m₃ b = some v.2 → Fr h₀ L s₃.heap m → News h₀ L s₃.heap ((C, oC) :: news) → (∀ q ∈ news, q.1 ≠ C) →
      wpAny (model prog w) A (testsOf ifs (compEnvC sc cl C env)) (fun ok s₄ => ok = pz v ∧ Keeps s₃ s₄) E' s₃)
    (helt : ∀ (C : Addr) (oC : Obj) (s₃ : Shared) m₃ (i : Nat) (v : Value × Value) E', (∃ t, items[i]? = some v.2 ∧ v.1 = .int i t) → pz v = true → NsObj oC m₃ → m₃ a = some v.1 → m₃ b = some v.2 → Fr h₀ L s₃.heap m → News h₀ L s₃.heap ((C, oC) :: news) → (∀ q ∈ news, q.1 ≠ C) →
      wpAny (model prog w) A (eval elt (compEnvC sc cl C env)) (fun y s₄ => Stop (Rel v y ∧ Keeps s₃ s₄)) E' s₃)
    (hQ : ∀ (D : Addr) h' tk ys nD (vs : List (Value × Value)), (∀ q ∈ news, q.1 ≠ D) → vs.length = items.size → (∀ (j : Nat) v, vs[j]? = some v → ∃ t, items[j]? = some v.2 ∧ v.1 = .int j t) → Paired Rel (vs.filter pz) ys.toList → R D h' tk ys nD news) :
    PairSrc prog w A h₀ L env elt ifs a b sc cl m R (.ref e) s := by
  obtain ⟨W, hst, hfp⟩ := enumWalk (prog := prog) (w := w) (A := A) hh F N hT hc hd hei hpe hpi
  have he := N (e, enumObj it) (List.mem_cons_self ..)
  have hi := N (it, oI) (List.mem_cons_of_mem _ (List.mem_cons_self ..))
  refine ⟨e, _, _, _, _, _, _, news, Rel, pz, rfl, W, hsz, hst, hfp, F, fun q hq => N q (List.mem_cons_of_mem _ (List.mem_cons_of_mem _ hq)), ?_, ?_, ?_, htest, helt, hQ⟩
  · intro q
    rcases List.mem_cons.mp q with q | q
    · exact he.2.1 q.symm
    · exact hi.2.1 (List.mem_singleton.mp q).symm
  · intro c q
    rcases List.mem_cons.mp q with rfl | q
    · exact he.2.2
    · rw [List.mem_singleton.mp q]; exact hi.2.2
  · intro r hr q
    rcases List.mem_cons.mp q with q | q
    · exact hne r hr q
    · exact hni r hr (List.mem_singleton.mp q)
end
end Mine
end
section
open PySem PySem.W PyProof.Rows PyProof.V
set_option Elab.async false
set_option maxRecDepth 100000
set_option maxHeartbeats 2000000
namespace Mine
open PySem PySem.Spec PySem.Calls
abbrev AllOk (ns : List Str) : Prop := ∀ x ∈ ns, PyData.strOk x = true
theorem ks_canLayAll0 : ∀ ns : List Str, AllOk ns → PyData.canLayAll0 (ns.map PyData.str) = true
  | [], _ => rfl
  | a :: r, h => by simp [PyData.canLayAll0, PyData.canLay0, h a (List.mem_cons_self ..), ks_canLayAll0 r fun x hx => h x (List.mem_cons_of_mem _ hx)]
theorem ks_depthAll : ∀ ns : List Str, PyData.depthAll (ns.map PyData.str) = 0
  | [] => rfl
  | _ :: r => by simp [PyData.depthAll, PyData.depth, ks_depthAll r]
theorem ks_shaped {ns : List Str} (h : AllOk ns) : SeqAt.shaped (.list (ns.map PyData.str)) = true := by
  simp [SeqAt.shaped, PyData.canLay0, PyData.depth, ks_canLayAll0 _ h, ks_depthAll]
theorem ks_shapedT {ns : List Str} (h : AllOk ns) : SeqAt.shaped (.tuple (ns.map PyData.str)) = true := by
  simp [SeqAt.shaped, PyData.canLay0, PyData.depth, ks_canLayAll0 _ h, ks_depthAll]
theorem ks_sameAll : ∀ ns ms : List Str, PySem.Spec.sameAll (ns.map PyData.str) (ms.map PyData.str) = decide (ns = ms)
  | [], [] => by simp [PySem.Spec.sameAll]
  | [], _ :: _ => by simp [PySem.Spec.sameAll]
  | _ :: _, [] => by simp [PySem.Spec.sameAll]
  | a :: r, b :: t => by
    simp only [List.map_cons, PySem.Spec.sameAll, PySem.Spec.same, ks_sameAll r t]
    by_cases h : a = b <;> by_cases h' : r = t <;> simp [h, h']
theorem ks_same (ns ms : List Str) : PySem.Spec.same (.list (ns.map PyData.str)) (.list (ms.map PyData.str)) = decide (ns = ms) := by
  simp only [PySem.Spec.same]; exact ks_sameAll ns ms
theorem ks_sameT (ns ms : List Str) : PySem.Spec.same (.tuple (ns.map PyData.str)) (.tuple (ms.map PyData.str)) = decide (ns = ms) := by
  simp only [PySem.Spec.same]; exact ks_sameAll ns ms
theorem ks_carried : ∀ {vs : List Value} {ns : List Str}, StrsAre vs ns → CarriedAll vs (ns.map PyData.str)
  | _, _, .nil => .nil
  | _, _, .cons _ t r => .cons (.str _ t) (ks_carried r)
section
variable {prog : Program} {w : World} {A : Around} {E : Value → Shared → Prop} {s : Shared} {a b : Addr} {xs ys : List Value} {ns ms : List Str} {Q : Value → Shared → Prop}
theorem ks_ne (hn : AllOk ns) (hm : AllOk ms) (ha : s.heap.IsList a xs.toArray) (hb : s.heap.IsList b ys.toArray) (hi : StrsAre xs ns) (hj : StrsAre ys ms) (hu : A.units + 64 < cLine) (h : Q (.bool (!decide (ns = ms))) s) :
    wpAny (model prog w) A (compareOp .NotEq (.ref a) (.ref b)) Q E s :=
  ne_dataH_same (reads_newData ha (ks_carried hi)) (reads_newData hb (ks_carried hj)) (ks_shaped hn) (ks_shaped hm) hu (SeqAt.noMix_of_shape (.list .str) rfl _ _ (list_map_has fun _ => rfl) (list_map_has fun _ => rfl)) (by rw [ks_same]; exact h)
theorem ks_eqT (hn : AllOk ns) (hm : AllOk ms) (ha : s.heap.IsTuple a xs.toArray) (hb : s.heap.IsTuple b ys.toArray) (hi : StrsAre xs ns) (hj : StrsAre ys ms) (hu : A.units + 64 < cLine) (h : Q (.bool (decide (ns = ms))) s) :
    wpAny (model prog w) A (compareOp .Eq (.ref a) (.ref b)) Q E s :=
  eq_dataH_same (reads_newDataT ha (ks_carried hi)) (reads_newDataT hb (ks_carried hj)) (ks_shapedT hn) (ks_shapedT hm) hu (SeqAt.noMix_of_shape (.tuples .str) rfl _ _ (tuples_map_has fun _ => rfl) (tuples_map_has fun _ => rfl)) (by rw [ks_sameT]; exact h)
end
theorem ok_append {x y : Str} (hx : PyData.strOk x = true) (hy : PyData.strOk y = true) : PyData.strOk (x ++ y) = true := by
  unfold PyData.strOk at *
  have e : (x ++ y).cps = x.cps ++ y.cps := rfl
  rw [e, Array.all_append, hx, hy]
  rfl
theorem ok_item {x : Str} {i : Int} (h : PyData.strOk x = true) : PyData.strOk (Txt.item x i) = true := by
  unfold Txt.item
  cases hc : Txt.charAt x i with
  | none => (show PyData.strOk ⟨#[0]⟩ = true); decide +kernel
  | some c =>
    unfold Txt.charAt at hc
    unfold PyData.strOk at *
    cases hs : seqIndex? i x.length with
    | none => rw [hs] at hc; cases hc
    | some k =>
      rw [hs] at hc
      have hc' : x.cps[k]? = some c := hc
      have hm : c ∈ x.cps := Array.mem_of_getElem? hc'
      have := Array.all_eq_true'.mp h c hm
      simpa using this
theorem strs3 (a b c : Str) (t u v : Tok) : StrsAre [.str a t, .str b u, .str c v] [a, b, c] := .cons _ _ (.cons _ _ (.cons _ _ .nil))
end Mine
end
section
open PySem PySem.W PyProof.Rows
set_option Elab.async false
set_option maxRecDepth 100000
set_option maxHeartbeats 4000000
namespace Mine
theorem spec_imode (w : World) (mean : ExcName → Option Value) (mg mb : Str → Option Value) (x : Int) (t0 : Tok) :
    CpL 5 w mean mg mb 84 (fun _ => True) [Value.int x t0] (fun t => Value.int (Builtin.bitAnd x 4095) t) := by
  dsimp only [CpL]
  k_fill
  w_on
  intro dp un gd cn cs a ccd cl outer A₀ base h₀ L m s Q E B F X T hk hpre hd hu hret
  refine wpAny_call ?_
  k_dflt (refine' callP ?k1 ?k2 ?k3 ?k5 ?kA ?kF ?kK ?k6 ?k7 ?k8 ?k9 ?kB ?_ ?c2 ?c3 ?c4 ?c5; (case kA => exact rfl); (case kF => exact rfl); (case kK => assumption); (case k1 => k_asm); (case k2 => k_asm); (case k3 => k_asm); (case k5 => k_asm); (case k6 => k_is); (case k7 => k_is); (case k8 => ktr_room); (case k9 => first | exact BindsTo.of_eq rfl | exact binds_K (by k_in) rfl (by k_is) rfl rfl rfl); (case c5 => decide); (case kB => exact locs rfl); (case c2 => exact rfl); (case c3 => exact rfl); (case c4 => exact rfl); k_whole; intro L' h' F' N' B' X' T'; (try dsimp only); (try k_fold))
  k_steps
  all_goals exact cp_retI (Q := Q) hret (by assumption) rfl
def tabL : List (Str × Int) := [(Str.ofString "OPTIMIZED", 9), (Str.ofString "NEWLOCALS", 8), (Str.ofString "VARARGS", 7), (Str.ofString "VARKEYWORDS", 6), (Str.ofString "NESTED", 5), (Str.ofString "GENERATOR", 4), (Str.ofString "NOFREE", 3), (Str.ofString "COROUTINE", 2), (Str.ofString "ITERABLE_COROUTINE", 1), (Str.ofString "ASYNC_GENERATOR", 9), (Str.ofString "0x400", 6), (Str.ofString "0x800", 3)]
/-- a tuple (a text, an int) of the table, where it lies -/
structure TEnt where
  at_ : Addr
  word : Str
  wt : Tok
  sign : Int
  st : Tok
def TEnt.obj (e : TEnt) : Addr × Obj := (e.at_, tupOf #[.str e.word e.wt, .int e.sign e.st] 0)
abbrev tabNews (D : Addr) (es : List TEnt) : List (Addr × Obj) := (D, listOf (es.map fun e => Value.ref e.at_).toArray 0) :: es.map TEnt.obj
theorem table_ret {g h' : Heap} {L' l9 d0 d1 d2 d3 d4 d5 d6 d7 d8 d9 d10 d11 : Addr} {a0 b0 a1 b1 a2 b2 a3 b3 a4 b4 a5 b5 a6 b6 a7 b7 a8 b8 a9 b9 a10 b10 a11 b11 : Tok} (N : News g L' h' [(l9, listOf #[.ref d0, .ref d1, .ref d2, .ref d3, .ref d4, .ref d5, .ref d6, .ref d7, .ref d8, .ref d9, .ref d10, .ref d11] 0), (d11, tupOf #[.str (Str.ofString "0x800") a11, .int (3) b11] 0), (d10, tupOf #[.str (Str.ofString "0x400") a10, .int (6) b10] 0), (d9, tupOf #[.str (Str.ofString "ASYNC_GENERATOR") a9, .int (9) b9] 0), (d8, tupOf #[.str (Str.ofString "ITERABLE_COROUTINE") a8, .int (1) b8] 0), (d7, tupOf #[.str (Str.ofString "COROUTINE") a7, .int (2) b7] 0), (d6, tupOf #[.str (Str.ofString "NOFREE") a6, .int (3) b6] 0), (d5, tupOf #[.str (Str.ofString "GENERATOR") a5, .int (4) b5] 0), (d4, tupOf #[.str (Str.ofString "NESTED") a4, .int (5) b4] 0), (d3, tupOf #[.str (Str.ofString "VARKEYWORDS") a3, .int (6) b3] 0), (d2, tupOf #[.str (Str.ofString "VARARGS") a2, .int (7) b2] 0), (d1, tupOf #[.str (Str.ofString "NEWLOCALS") a1, .int (8) b1] 0), (d0, tupOf #[.str (Str.ofString "OPTIMIZED") a0, .int (9) b0] 0)]) :
    ∃ es : List TEnt, es.map (fun e => (e.word, e.sign)) = tabL ∧ ∀ q ∈ tabNews l9 es, h'.get? q.1 = some q.2 ∧ g.get? q.1 = none := by
  refine ⟨[⟨d0, Str.ofString "OPTIMIZED", a0, 9, b0⟩, ⟨d1, Str.ofString "NEWLOCALS", a1, 8, b1⟩, ⟨d2, Str.ofString "VARARGS", a2, 7, b2⟩, ⟨d3, Str.ofString "VARKEYWORDS", a3, 6, b3⟩, ⟨d4, Str.ofString "NESTED", a4, 5, b4⟩, ⟨d5, Str.ofString "GENERATOR", a5, 4, b5⟩, ⟨d6, Str.ofString "NOFREE", a6, 3, b6⟩, ⟨d7, Str.ofString "COROUTINE", a7, 2, b7⟩, ⟨d8, Str.ofString "ITERABLE_COROUTINE", a8, 1, b8⟩, ⟨d9, Str.ofString "ASYNC_GENERATOR", a9, 9, b9⟩, ⟨d10, Str.ofString "0x400", a10, 6, b10⟩, ⟨d11, Str.ofString "0x800", a11, 3, b11⟩], rfl, ?_⟩
  have key : ∀ q, q ∈ [(l9, listOf #[.ref d0, .ref d1, .ref d2, .ref d3, .ref d4, .ref d5, .ref d6, .ref d7, .ref d8, .ref d9, .ref d10, .ref d11] 0), (d11, tupOf #[.str (Str.ofString "0x800") a11, .int (3) b11] 0), (d10, tupOf #[.str (Str.ofString "0x400") a10, .int (6) b10] 0), (d9, tupOf #[.str (Str.ofString "ASYNC_GENERATOR") a9, .int (9) b9] 0), (d8, tupOf #[.str (Str.ofString "ITERABLE_COROUTINE") a8, .int (1) b8] 0), (d7, tupOf #[.str (Str.ofString "COROUTINE") a7, .int (2) b7] 0), (d6, tupOf #[.str (Str.ofString "NOFREE") a6, .int (3) b6] 0), (d5, tupOf #[.str (Str.ofString "GENERATOR") a5, .int (4) b5] 0), (d4, tupOf #[.str (Str.ofString "NESTED") a4, .int (5) b4] 0), (d3, tupOf #[.str (Str.ofString "VARKEYWORDS") a3, .int (6) b3] 0), (d2, tupOf #[.str (Str.ofString "VARARGS") a2, .int (7) b2] 0), (d1, tupOf #[.str (Str.ofString "NEWLOCALS") a1, .int (8) b1] 0), (d0, tupOf #[.str (Str.ofString "OPTIMIZED") a0, .int (9) b0] 0)] → h'.get? q.1 = some q.2 ∧ g.get? q.1 = none := fun q hq => ⟨(N q hq).1, (N q hq).2.2⟩
  unfold tabNews
  refine List.forall_mem_cons.mpr ⟨key _ (List.mem_cons_self ..), ?_⟩
  repeat (refine List.forall_mem_cons.mpr ⟨key _ (by repeat (first | exact List.mem_cons_self .. | refine List.mem_cons_of_mem _ ?_)), ?_⟩)
  exact List.forall_mem_nil _
theorem spec_table (w : World) (mean : ExcName → Option Value) (mg mb : Str → Option Value) :
    ∀ (dp un : Nat) (gd : Option (List Code)) (cn : Str) (cs : Scope) (a : Addr) (ccd : Value) (cl : List (Str × Addr)) (outer : List Env) (A₀ : Around) (base h₀ : Heap) (L : Addr) (m : Str → Option Value) (s : Shared) (Q E : Value → Shared → Prop),
    Below A₀ base outer h₀ → Fr h₀ L s.heap m → (hd.heap_39 w.params).In h₀ → Top hd.view_39 (looseW hd.view_39 [Str.ofString "_MIN_DIFF_LEN", Str.ofString "safe_repr", Str.ofString "COMPILER_FLAG_NAMES", Str.ofString "_filemode_table"]) mean mg mb h₀ → cs.kind = .function →
    dp + 5 < recursionLimit → un + 10 * 5 < cLine →
    (∀ (D : Addr) (es : List TEnt) (h' : Heap) (tk' : Nat), s.heap.StaysIn h' → es.map (fun e => (e.word, e.sign)) = tabL → (∀ q ∈ tabNews D es, h'.get? q.1 = some q.2 ∧ s.heap.get? q.1 = none) → Q (.ref D) { s with heap := h', toks := tk' }) →
      wpAny (model Challenge.rw_om0040_01.row.prog w) (ktrTop dp un gd cn cs L a ccd cl outer) (call (.ref 145) []) Q E s := by
  k_fill
  w_on
  intro dp un gd cn cs a ccd cl outer A₀ base h₀ L m s Q E B F X T hk hd hu hret
  refine wpAny_call ?_
  k_dflt (refine' callP ?k1 ?k2 ?k3 ?k5 ?kA ?kF ?kK ?k6 ?k7 ?k8 ?k9 ?kB ?_ ?c2 ?c3 ?c4 ?c5; (case kA => exact rfl); (case kF => exact rfl); (case kK => assumption); (case k1 => k_asm); (case k2 => k_asm); (case k3 => k_asm); (case k5 => k_asm); (case k6 => k_is); (case k7 => k_is); (case k8 => ktr_room); (case k9 => first | exact BindsTo.of_eq rfl | exact binds_K (by k_in) rfl (by k_is) rfl rfl rfl); (case c5 => decide); (case kB => exact locs rfl); (case c2 => exact rfl); (case c3 => exact rfl); (case c4 => exact rfl); k_whole; intro L' h' F' N' B' X' T'; (try dsimp only); (try k_fold))
  k_steps
  (rename News (Shared.heap s) _ _ _ => N9)
  (rename Fr (Shared.heap s) _ _ _ => F9)
  obtain ⟨es, he, hes⟩ := table_ret N9
  exact hret _ es _ _ F9.keep he hes
end Mine
end
section
open PySem PySem.W PyProof.Rows
local macro_rules | `(tactic| walk_at "eval Name") => `(tactic| (k_here; k_dflt (refine' nameX_L ?k1 ?k2 ?_; (case k1 => k_asm); (case k2 => assumption))))
local macro_rules | `(tactic| walk_at "eval Name") => `(tactic| (k_here; (with_reducible show wpAny _ _ (eval (PySem.Expr.Name _ _) (compEnvC _ _ _ _)) _ _ _); k_dflt (refine' LCgL.ld_own ?k1 ?k2 ?k3 ?k4 ?_; (case k1 => k_asm); (case k2 => k_mem); (case k3 => assumption); (case k4 => assumption))))
section
open PySem PySem.W PyProof.Rows
set_option Elab.async false
set_option maxRecDepth 100000
set_option maxHeartbeats 2000000
namespace Mine
open PySem PySem.Spec PySem.Calls
open PyProof.Rows.LCg (NsObj ns_obj)
local macro_rules | `(tactic| walk_at "pad2") => `(tactic| fail)
local macro_rules | `(tactic| walk_at "exec Assign cons ListComp") => `(tactic| (k_here; (with_reducible show wpAny _ _ (exec (Stmt.Assign _ (PySem.Expr.ListComp _ [⟨PySem.Expr.Tuple _ _ _, _, _, _⟩] _ _) _) _) _ _ _); refine stopAt ?_))
local macro_rules | `(tactic| walk_at "call type:enumerate") => `(tactic| (k_here; refine stopAt ?_))
local macro_rules | `(tactic| walk_at "subscriptTail Name Slice ref ref") => `(tactic| (k_here; (with_reducible show wpAny _ _ (subscriptTail _ (PySem.Expr.Slice _ _ (some _) _) (Value.ref _) (Value.ref _)) _ _ _); refine stopAt ?_))
local macro_rules | `(tactic| walk_at "call builtin:sum") => `(tactic| (k_here; refine stopAt ?_))
local macro_rules | `(tactic| walk_at "pyIter ref") => `(tactic| (k_here; refine stopAt ?_))
def intRel (_v : Value × Value) (y : Value) : Prop := ∃ k t, y = .int k t
theorem intOne {vs : List (Value × Value)} {ys : List Value} {n : Nat} (h : Paired intRel vs ys) (hl : vs.length = n + 1) :
    ∃ k t vs' ys', ys = Value.int k t :: ys' ∧ Paired intRel vs' ys' ∧ vs'.length = n := by
  cases h with
  | nil => cases hl
  | cons hd tl =>
    obtain ⟨k, t, e⟩ := hd
    exact ⟨k, t, _, _, by rw [e], tl, Nat.succ.inj hl⟩
theorem six {vs : List (Value × Value)} {ys : Array Value} (h : Paired intRel (vs.filter fun _ => true) ys.toList) {n : Nat} (hl : vs.length = n) (hn : n = 6 := by rfl) :
    ∃ s0 t0 s1 t1 s2 t2 s3 t3 s4 t4 s5 t5, ys = #[.int s0 t0, .int s1 t1, .int s2 t2, .int s3 t3, .int s4 t4, .int s5 t5] := by
  subst hn
  have e : vs.filter (fun _ => true) = vs := List.filter_eq_self.mpr fun _ _ => rfl
  rw [e] at h
  obtain ⟨l⟩ := ys
  obtain ⟨s0, t0, _, l, rfl, h, hl⟩ := intOne h hl
  obtain ⟨s1, t1, _, l, rfl, h, hl⟩ := intOne h hl
  obtain ⟨s2, t2, _, l, rfl, h, hl⟩ := intOne h hl
  obtain ⟨s3, t3, _, l, rfl, h, hl⟩ := intOne h hl
  obtain ⟨s4, t4, _, l, rfl, h, hl⟩ := intOne h hl
  obtain ⟨s5, t5, _, l, rfl, h, hl⟩ := intOne h hl
  cases h with
  | nil => exact ⟨s0, t0, s1, t1, s2, t2, s3, t3, s4, t4, s5, t5, rfl⟩
  | cons => cases hl
theorem law_seg1 (w : World) (mean : ExcName → Option Value) (mg mb : Str → Option Value) :
    ∀ (L fa : Addr) (cd : Value) (h₀ : Heap) (X : (hd.heap_39 w.params).In h₀) (T : Top hd.view_39 (looseW hd.view_39 [Str.ofString "_MIN_DIFF_LEN", Str.ofString "safe_repr", Str.ofString "COMPILER_FLAG_NAMES", Str.ofString "_filemode_table"]) mean mg mb h₀) (B : Below callerA h₀ [] h₀) (lst : Addr) (vs : List Value) (ns : List Int) (s : Shared) (Q : Flow → Shared → Prop) (E : Value → Shared → Prop) (o1 o2 o3 o4 o5 o6 : Obj),
    h₀.IsList lst vs.toArray → IntsAre vs ns → ns.length ≤ 63 → PyData.layable0 (PyData.list (List.map PyData.int ns)) = true →
    Fr h₀ L s.heap (fun y => if y = Str.ofString "script" then some (.ref lst) else none) →
    News h₀ L s.heap [(L + 1 + 1 + 1 + 1 + 1 + 1, o6), (L + 1 + 1 + 1 + 1 + 1, o5), (L + 1 + 1 + 1 + 1, o4), (L + 1 + 1 + 1, o3), (L + 1 + 1, o2), (L + 1, o1)] → o1.data = .cell none →
    (∀ (D : Addr) (n : Nat) (s0 s1 s2 s3 s4 s5 : Int) (t0 t1 t2 t3 t4 t5 : Tok) h' tk (m' : Str → Option Value), Fr h₀ L h' m' → m' (Str.ofString "sums") = some (.ref D) →
      News h₀ L h' [(D, listOf #[.int s0 t0, .int s1 t1, .int s2 t2, .int s3 t3, .int s4 t4, .int s5 t5] n), (L + 1 + 1 + 1 + 1 + 1 + 1, o6), (L + 1 + 1 + 1 + 1 + 1, o5), (L + 1 + 1 + 1 + 1, o4), (L + 1 + 1 + 1, o3), (L + 1 + 1, o2)] → @Ne Nat (L + 1 + 1 + 1 + 1 + 1 + 1) D → @Ne Nat (L + 1 + 1 + 1 + 1 + 1) D → @Ne Nat (L + 1 + 1 + 1 + 1) D → @Ne Nat (L + 1 + 1 + 1) D → @Ne Nat (L + 1 + 1) D → LawAt w L fa cd 2 Q E { s with heap := h', toks := tk }) →
    LawAt w L fa cd 0 Q E s := by
  dsimp only [LawAt, lawEnv]
  k_fill
  w_on
  intro L fa cd h₀ X T B lst vs ns s Q E o1 o2 o3 o4 o5 o6 hL hI hlen hlay F N ho1 hnext
  conv in List.drop _ _ => whnf
  generalize hsc : lawScope = sc
  have hsc' := hsc
  conv at hsc' => lhs; whnf
  subst hsc'
  obtain ⟨h1, g1, d1, tk1, os1⟩ := s
  dsimp only at F N ⊢
  (with_reducible show wpAny _ _ _ _ _ _)
  try k_fold
  k_steps
  refine Stop.mk ?_
  (rename Fr _ _ _ _ => F2); (rename News _ _ _ _ => N2)
  k_dflt (refine assignCompP (h₀ := h₀) (L := L) (m := fun y => if y = Str.ofString "script" then some (Value.ref lst) else none) rfl rfl (by with_unfolding_all rfl) (by with_unfolding_all rfl) (by decide) rfl (by decide) rfl rfl (by decide) rfl rfl ?_)
  k_steps
  refine Stop.mk ?_
  (rename Fr _ _ _ _ => F3); (rename News _ _ _ _ => N3)
  rename_i Dn hq tkq o1q hq2 oN dn Dt h3 lq
  (rename IntsAre ys _ => hys)
  have hylen : ys.length ≤ 63 := by
    have q := hys.length
    rw [List.length_map, List.length_take] at q
    omega
  have N3 : ∃ ta tb tc td te tf, News h₀ L h3 [(Dt, tupOf #[.int 33188 ta, .int 6 tb, .int 36 tc, .int 2 td, .int 5 te, .int 1 tf] 0), (Dn, listOf ys.toArray ys.length), (L + 1, oN), (L + 1 + 1 + 1 + 1 + 1 + 1, o6), (L + 1 + 1 + 1 + 1 + 1, o5), (L + 1 + 1 + 1 + 1, o4), (L + 1 + 1 + 1, o3), (L + 1 + 1, o2)] := ⟨_, _, _, _, _, _, fun q hq => N3 q (by
    simp only [List.mem_cons, List.not_mem_nil, or_false] at hq ⊢
    rcases hq with hq | hq | hq | hq | hq | hq | hq | hq
    · exact .inl hq
    all_goals simp [hq])⟩
  obtain ⟨ta, tb, tc, td, te, tf, N3⟩ := N3
  generalize List.map (fun k' => Int.fmod k' 1000000) (List.take 63 ns) = nn at *
  clear lq o1q
  dsimp only
  refine enumL (isTuple_news N3 (List.mem_cons_self ..)) F3 N3 ?_
  intro e it oI h4 F4 N4 hc hd9 hei hpe hpi hni hne
  clear F3
  dsimp only
  k_steps
  refine Stop.mk ?_
  refine wpAny_pyIter_enum (N4 (e, enumObj it) (List.mem_cons_self ..)).1 ?_
  refine enumPair intRel (fun _ => true) rfl F4 N4 (isTuple_news N4 (List.mem_cons_of_mem _ (List.mem_cons_of_mem _ (List.mem_cons_self ..)))) hc hd9 hei hpe hpi hni hne (by rw [sizeLine_eq]; show 6 ≤ _; omega) (fun _ _ _ _ _ _ _ _ _ _ _ _ _ _ => testNil) ?_ ?_
  · rintro C oC s₃ m₃ i ⟨v1, v2⟩ E' ⟨t9, hv, hv1⟩ _ hoC hma hmb F8 N8 hCn
    clear F4 N4
    obtain ⟨h8, g8, d8, tk8, os8⟩ := s₃
    dsimp only at F8 N8 hv hv1 hma hmb ⊢
    subst hv1
    obtain ⟨nv, tv, rfl⟩ : ∃ nv tv, v2 = .int nv tv := by
      match i, hv with
      | 0, hv => exact ⟨_, _, (Option.some.inj hv).symm⟩
      | 1, hv => exact ⟨_, _, (Option.some.inj hv).symm⟩
      | 2, hv => exact ⟨_, _, (Option.some.inj hv).symm⟩
      | 3, hv => exact ⟨_, _, (Option.some.inj hv).symm⟩
      | 4, hv => exact ⟨_, _, (Option.some.inj hv).symm⟩
      | 5, hv => exact ⟨_, _, (Option.some.inj hv).symm⟩
    k_steps
    refine Stop.mk ?_
    (rename Fr _ _ _ _ => F10); (rename News _ _ _ _ => N10)
    refine sliceK (s := ⟨_, _, _, _, _⟩) (hsz := ?hsz) F10 N10 (News.isList N10 (List.mem_cons_of_mem _ (List.mem_cons_of_mem _ (List.mem_cons_self ..)))) (IsPart.int _ _) IsPart.none (IsPart.int _ _) (by decide) ?_
    case hsz => (rw [List.size_toArray, sizeLine_eq]; omega)
    intro D10 h10 F11 N11 st11 hD11
    clear F10 N10
    k_steps
    refine Stop.mk ?_
    (rename Fr _ _ _ _ => F12); (rename News _ _ _ _ => N12)
    refine sumK (vs := (slicePick ys.toArray (some (i : Int)) none (some 6)).toList) rfl (by rw [Array.toArray_toList]; exact News.isList N12 (List.mem_cons_self ..)) (hys.pick _ _ _) F12 N12 ?_
    intro h13 tk13 k13 t13 F13 N13 st13
    clear F12 N12
    k_steps
    exact Stop.mk ⟨⟨_, _, rfl⟩, _, _, rfl, fun b o e => st13 b o (st11 b o e)⟩
  · rintro D h' tk9 ys9 nD vs9 hDn hlen9 hP9 hF9 F9 N9
    obtain ⟨s0, t0, s1, t1, s2, t2, s3, t3, s4, t4, s5, t5, rfl⟩ := six hF9 hlen9
    refine hnext D nD s0 s1 s2 s3 s4 s5 t0 t1 t2 t3 t4 t5 h' tk9 _ F9 rfl (fun q hq => N9 q ?_) ?_ ?_ ?_ ?_ ?_
    · simp only [List.mem_cons, List.not_mem_nil, or_false] at hq ⊢
      rcases hq with hq | hq | hq | hq | hq | hq <;> simp [hq]
    · exact hDn (_, o6) (by repeat (first | exact List.mem_cons_self .. | refine List.mem_cons_of_mem _ ?_))
    · exact hDn (_, o5) (by repeat (first | exact List.mem_cons_self .. | refine List.mem_cons_of_mem _ ?_))
    · exact hDn (_, o4) (by repeat (first | exact List.mem_cons_self .. | refine List.mem_cons_of_mem _ ?_))
    · exact hDn (_, o3) (by repeat (first | exact List.mem_cons_self .. | refine List.mem_cons_of_mem _ ?_))
    · exact hDn (_, o2) (by repeat (first | exact List.mem_cons_self .. | refine List.mem_cons_of_mem _ ?_))
end Mine
end
section
open PySem PySem.W PyProof.Rows
set_option Elab.async false
set_option maxRecDepth 100000
set_option maxHeartbeats 2000000
namespace Mine
open PySem PySem.Spec PySem.Calls
open PyProof.Rows.LCg (NsObj ns_obj)
local macro_rules | `(tactic| walk_at "exec Assign cons ListComp") => `(tactic| (k_here; refine stopAt ?_))
local macro_rules | `(tactic| walk_at "eval ListComp") => `(tactic| (k_here; refine stopAt ?_))
local macro_rules | `(tactic| walk_at "pyIter ref") => `(tactic| (k_here; refine stopAt ?_))
local macro_rules | `(tactic| walk_at "call ref") => `(tactic| (k_here; refine stopAt ?_))
section
variable {M : Model} {A : Around} {E : Value → Shared → Prop} {s : Shared} {h₀ : Heap} {L a : Addr} {m : Str → Option Value} {cn : Str} {cs : Scope} {ccd : Value} {cl : List (Str × Addr)} {x : Str} {v : Int} {t : Tok} {Q : Unit → Shared → Prop} {news : List (Addr × Obj)}
theorem storeGenI (F : Fr h₀ L s.heap m) (N : News h₀ L s.heap news)
    (h : ∀ b t' tk h', b = v → Fr h₀ L h' (fun y => if y = x then some (.int b t') else m y) → News h₀ L h' news → Q () { s with heap := h', toks := tk })
    (hk : cs.kind = .function := by rfl) (hx : (envX cn cs L a ccd cl).kindOf x = some .local := by rfl) : wpAny M A (storeName (envX cn cs L a ccd cl) x (.int v t)) Q E s :=
  storeX_L F N (fun h' F' N' => h v t _ h' rfl F' N') hk hx
end
local macro_rules | `(tactic| walk_at "storeName") => `(tactic| (k_here; (with_reducible show wpAny _ _ (storeName _ _ (Value.int _ _)) _ _ _); (with_reducible rename Fr _ _ _ _ => kF'); (with_reducible rename News _ _ _ _ => kN'); k_dflt (refine storeGenI kF' kN' ?_); intro b9 t9 tk9 h9 hb9 F9 N9; clear kF' kN'; dsimp only; refine stopAt ?_))
def turnOf (base x : Int) : Int := Builtin.bitXor base (Builtin.bitOr (2 ^ (x.fmod 17).toNat) (2 ^ ((x.fdiv 17).fmod 17).toNat))
abbrev fmS (x : Int) : Str := Txt.join (Str.ofString "") (fmChars x 10)
def isRel (f : Int → Str) (v y : Value) : Prop := ∃ x t t', v = .int x t ∧ y = .str (f x) t'
theorem int3_is {a b c : Int} {t u v : Tok} {i : Nat} {x : Value} (h : (#[Value.int a t, .int b u, .int c v] : Array Value)[i]? = some x) : ∃ n t', x = .int n t' := by
  match i, h with
  | 0, h => exact ⟨_, _, (Option.some.inj h).symm⟩
  | 1, h => exact ⟨_, _, (Option.some.inj h).symm⟩
  | 2, h => exact ⟨_, _, (Option.some.inj h).symm⟩
theorem fm17a (x : Int) : 0 ≤ x.fmod 17 := Int.fmod_nonneg_of_pos _ (by decide)
theorem fm17b (x : Int) : x.fmod 17 ≤ 1000000 := by have := Int.fmod_lt_of_pos x (b := 17) (by decide); omega
local macro_rules | `(tactic| walk_at "binaryOp Pow int int") => `(tactic| (k_here; (with_reducible refine pow_int_small ?kb1 ?kb2 ?kb3 ?_); (case kb1 => exact fm17a _); (case kb2 => exact fm17b _); (case kb3 => decide)))
theorem six3 {f : Int → Str} {a b c : Int} {t u v : Tok} {vs : List Value} {ys : Array Value} (h : Paired (isRel f) (vs.filter fun _ => true) ys.toList) (hl : vs.length = (#[Value.int a t, .int b u, .int c v] : Array Value).size) (hv : ∀ (j : Nat) x, vs[j]? = some x → (#[Value.int a t, .int b u, .int c v] : Array Value)[j]? = some x) :
    ∃ t' u' v', ys = #[.str (f a) t', .str (f b) u', .str (f c) v'] := by
  obtain ⟨x, y, z, rfl, ⟨_, _, t', q0, rfl⟩, ⟨_, _, u', q1, rfl⟩, ⟨_, _, v', q2, rfl⟩⟩ := paired3 h hl hv
  cases q0
  cases q1
  cases q2
  exact ⟨t', u', v', rfl⟩
local macro_rules | `(tactic| walk_at "execs cons") => `(tactic| (k_here; (with_reducible show wpAny _ _ (execs (Stmt.Assign [PySem.Expr.Name (Str.ofString "turned") _] _ _ :: _) _) _ _ _); refine stopAt ?_))
theorem ite_ok {c : Prop} [Decidable c] {x y : Str} (hx : PyData.strOk x = true) (hy : PyData.strOk y = true) : PyData.strOk (if c then x else y) = true := by
  split <;> assumption
theorem lrAcc_ok (x : Int) : ∀ i, PyData.strOk (lrAcc x i) = true
  | 0 => ok_item (by decide +kernel)
  | i + 1 => by
    cases hq : lrTab[i]? with
    | none =>
      show PyData.strOk (match lrTab[i]? with | some (f, ab, en) => lrSeg x f ab en (lrAcc x i) | none => lrAcc x i) = true
      rw [hq]
      exact lrAcc_ok x i
    | some r =>
      obtain ⟨f, ab, en⟩ := r
      rw [lrAcc_succ hq]
      have hen : PyData.strOk en = true := (by decide +kernel : ∀ r ∈ lrTab, PyData.strOk r.2.2 = true) (f, ab, en) (List.mem_of_getElem? hq)
      unfold lrSeg
      exact ok_append (ok_append (lrAcc_ok x i) (ok_append (ite_ok (by decide +kernel) (by decide +kernel)) (ite_ok (by decide +kernel) (by decide +kernel)))) (ite_ok (ok_item hen) (ok_item (by decide +kernel)))
theorem law_seg2 (w : World) (mean : ExcName → Option Value) (mg mb : Str → Option Value) :
    ∀ (L fa : Addr) (cd : Value) (h₀ : Heap) (X : (hd.heap_39 w.params).In h₀) (T : Top hd.view_39 (looseW hd.view_39 [Str.ofString "_MIN_DIFF_LEN", Str.ofString "safe_repr", Str.ofString "COMPILER_FLAG_NAMES", Str.ofString "_filemode_table"]) mean mg mb h₀) (B : Below callerA h₀ [] h₀) (s : Shared) (Q : Flow → Shared → Prop) (E : Value → Shared → Prop) (o2 o3 o4 o5 o6 : Obj) (D : Addr) (n : Nat) (s0 s1 s2 s3 s4 s5 : Int) (t0 t1 t2 t3 t4 t5 : Tok) (m : Str → Option Value), Fr h₀ L s.heap m → m (Str.ofString "sums") = some (.ref D) →
      News h₀ L s.heap [(D, listOf #[.int s0 t0, .int s1 t1, .int s2 t2, .int s3 t3, .int s4 t4, .int s5 t5] n), (L + 1 + 1 + 1 + 1 + 1 + 1, o6), (L + 1 + 1 + 1 + 1 + 1, o5), (L + 1 + 1 + 1 + 1, o4), (L + 1 + 1 + 1, o3), (L + 1 + 1, o2)] → @Ne Nat (L + 1 + 1 + 1 + 1 + 1 + 1) D → @Ne Nat (L + 1 + 1 + 1 + 1 + 1) D → @Ne Nat (L + 1 + 1 + 1 + 1) D → @Ne Nat (L + 1 + 1 + 1) D → @Ne Nat (L + 1 + 1) D →
    (∀ x : Int, fmS x = lrAcc x 3) →
    (∀ (one two base : Int) (ta tb tc : Tok) (DR : Addr) (nR : Nat) (w1 w2 w3 : Tok) h' tk (m' : Str → Option Value), base = s0.fmod 65536 * 65537 → one = turnOf base s1 → two = turnOf base s2 → Fr h₀ L h' m' →
      m' (Str.ofString "sums") = some (.ref D) → m' (Str.ofString "one") = some (.int one ta) → m' (Str.ofString "two") = some (.int two tb) → m' (Str.ofString "base") = some (.int base tc) → m' (Str.ofString "rows") = some (.ref DR) →
      News h₀ L h' [(DR, listOf #[.str (lrAcc one 3) w1, .str (lrAcc two 3) w2, .str (lrAcc base 3) w3] nR), (D, listOf #[.int s0 t0, .int s1 t1, .int s2 t2, .int s3 t3, .int s4 t4, .int s5 t5] n), (L + 1 + 1 + 1 + 1 + 1 + 1, o6), (L + 1 + 1 + 1 + 1 + 1, o5), (L + 1 + 1 + 1 + 1, o4), (L + 1 + 1 + 1, o3), (L + 1 + 1, o2)] → @Ne Nat (L + 1 + 1 + 1 + 1 + 1 + 1) DR → @Ne Nat (L + 1 + 1 + 1 + 1 + 1) DR → @Ne Nat (L + 1 + 1 + 1 + 1) DR → @Ne Nat (L + 1 + 1 + 1) DR → @Ne Nat (L + 1 + 1) DR → @Ne Nat D DR → LawAt w L fa cd 7 Q E { s with heap := h', toks := tk }) →
    LawAt w L fa cd 2 Q E s := by
  dsimp only [LawAt, lawEnv]
  k_fill
  w_on
  intro L fa cd h₀ X T B s Q E o2 o3 o4 o5 o6 D n s0 s1 s2 s3 s4 s5 t0 t1 t2 t3 t4 t5 m F hm1 N e6 e5 e4 e3 e2 hrow hnext
  conv in List.drop _ _ => whnf
  generalize hsc : lawScope = sc
  have hsc' := hsc
  conv at hsc' => lhs; whnf
  subst hsc'
  obtain ⟨h1, g1, d1, tk1, os1⟩ := s
  dsimp only at F N ⊢
  (with_reducible show wpAny _ _ _ _ _ _)
  try k_fold
  k_steps
  refine Stop.mk ?_
  rename_i base tb tkb hb hbase Fb Nb
  replace hbase : base = s0.fmod 65536 * 65537 := hbase
  k_steps
  refine Stop.mk ?_
  rename_i one t1' tk1' h1' hone F1 N1
  replace hone : one = turnOf base s1 := hone
  k_steps
  refine Stop.mk ?_
  rename_i two t2' tk2' h2' htwo F2 N2
  replace htwo : two = turnOf base s2 := htwo
  k_steps
  refine Stop.mk ?_
  k_dflt (refine wpAny_Assign_ListComp_free (fun _ => true) (isRel fmS) (by with_unfolding_all rfl) (by with_unfolding_all rfl) (by decide) rfl (by decide) rfl rfl rfl ?_)
  k_steps
  refine Stop.mk ?_
  (rename Fr _ _ _ _ => F3); (rename News _ _ _ _ => N3)
  rename_i Dt9 h39 l39
  refine iterTup (items := #[.int one t1', .int two t2', .int base tb]) rfl (isTuple_news N3 (List.mem_cons_self ..)) F3 N3 ?_
  rintro I s₂ ⟨h7, rfl⟩ W hst hfp hLI hI0 hIn F7 N7 up7 _
  clear F3 N3
  refine compBodyA (L := L) (p := fun _ => true) rfl W (by rw [sizeLine_eq]; show 3 ≤ _; omega) hst hfp F7 N7 hLI hI0 hIn (fun _ _ _ _ _ _ _ _ _ _ _ _ _ => testNil) ?_ ?_
  · rintro C oC s₃ m₃ i v E' hv _ hoC hmx F8 N8 hCn
    obtain ⟨xv, t', rfl⟩ := int3_is hv
    clear F7 N7
    obtain ⟨h8, g8, d8, tk8, os8⟩ := s₃
    dsimp only at F8 N8 ⊢
    k_steps
    refine Stop.mk ?_
    refine' (spec_filemode _ _ _ _ _ _).useK ?k1 F8 ?k3 N8 ?k5 ?kK ?kp ?kd ?ku ?_
    case k1 => k_asm
    case k3 => k_asm
    case k5 => k_asm
    case kK => exact rfl
    case kp => trivial
    case kd => ktr_room
    case ku => ktr_units
    intro t9 h9 tk9 st9 F9 N9
    exact Stop.mk ⟨⟨_, _, _, rfl, rfl⟩, _, _, rfl, st9⟩
  rintro DR h8 tk8 ys nR vs8 hDn hlen8 hP8 hF8 F8 N8 hk8
  obtain ⟨w1, w2, w3, rfl⟩ := six3 hF8 hlen8 hP8
  clear F7 N7 W hst hfp hLI hI0 hIn up7 hF8 hlen8 hP8 hk8
  have r6 : @Ne Nat (L + 1 + 1 + 1 + 1 + 1 + 1) DR := hDn (_, o6) (by repeat (first | exact List.mem_cons_self .. | refine List.mem_cons_of_mem _ ?_))
  have r5 : @Ne Nat (L + 1 + 1 + 1 + 1 + 1) DR := hDn (_, o5) (by repeat (first | exact List.mem_cons_self .. | refine List.mem_cons_of_mem _ ?_))
  have r4 : @Ne Nat (L + 1 + 1 + 1 + 1) DR := hDn (_, o4) (by repeat (first | exact List.mem_cons_self .. | refine List.mem_cons_of_mem _ ?_))
  have r3 : @Ne Nat (L + 1 + 1 + 1) DR := hDn (_, o3) (by repeat (first | exact List.mem_cons_self .. | refine List.mem_cons_of_mem _ ?_))
  have r2 : @Ne Nat (L + 1 + 1) DR := hDn (_, o2) (by repeat (first | exact List.mem_cons_self .. | refine List.mem_cons_of_mem _ ?_))
  have rD : @Ne Nat D DR := hDn (D, _) (List.mem_cons_of_mem _ (List.mem_cons_self ..))
  have N8 : News h₀ L h8 [(DR, listOf #[.str (fmS one) w1, .str (fmS two) w2, .str (fmS base) w3] nR), (D, listOf #[.int s0 t0, .int s1 t1, .int s2 t2, .int s3 t3, .int s4 t4, .int s5 t5] n), (L + 1 + 1 + 1 + 1 + 1 + 1, o6), (L + 1 + 1 + 1 + 1 + 1, o5), (L + 1 + 1 + 1 + 1, o4), (L + 1 + 1 + 1, o3), (L + 1 + 1, o2)] := fun q hq => N8 q (by
    rcases List.mem_cons.mp hq with rfl | hq
    · exact List.mem_cons_self ..
    · exact List.mem_cons_of_mem _ (List.mem_cons_of_mem _ hq))
  clear hDn l39
  dsimp only
  k_steps
  refine Stop.mk ?_
  k_dflt (refine wpAny_ListComp_free (fun _ => true) (isRel fun x => lrAcc x 3) (by with_unfolding_all rfl) (by decide) rfl (by decide) rfl ?_)
  k_steps
  refine Stop.mk ?_
  (rename Fr _ _ _ _ => F3); (rename News _ _ _ _ => N3)
  rename_i Dt10 h40 l40
  refine iterTup (items := #[.int one t1', .int two t2', .int base tb]) rfl (isTuple_news N3 (List.mem_cons_self ..)) F3 N3 ?_
  rintro I2 s₂ ⟨h17, rfl⟩ W hst hfp hLI hI0 hIn F17 N17 up17 _
  clear F3 N3
  refine compBody (p := fun _ => true) W (by rw [sizeLine_eq]; show 3 ≤ _; omega) hst hfp F17 N17 hLI hI0 hIn (fun _ _ _ _ _ _ _ _ _ _ _ _ _ => testNil) ?_ ?_
  · rintro C oC s₃ m₃ i v E' hv _ hoC hmx F8 N8 hCn
    obtain ⟨xv, t', rfl⟩ := int3_is hv
    clear F17 N17
    obtain ⟨h8, g8, d8, tk8, os8⟩ := s₃
    dsimp only at F8 N8 ⊢
    k_steps
    refine Stop.mk ?_
    refine' (spec_law_row _ _ _ _ _ _).useK ?k1 F8 ?k3 N8 ?k5 ?kK ?kp ?kd ?ku ?_
    case k1 => k_asm
    case k3 => k_asm
    case k5 => k_asm
    case kK => exact rfl
    case kp => trivial
    case kd => ktr_room
    case ku => ktr_units
    intro t9 h9 tk9 st9 F9 N9
    exact Stop.mk ⟨⟨_, _, _, rfl, rfl⟩, _, _, rfl, st9⟩
  rintro DQ h18 tk18 ys nQ vs8 hDn hlen8 hP8 hF8 F18 N18 hk8
  obtain ⟨x1, x2, x3, rfl⟩ := six3 hF8 hlen8 hP8
  clear F17 N17 W hst hfp hLI hI0 hIn up17 hF8 hlen8 hP8 hk8
  rw [hrow one, hrow two, hrow base] at N18
  have N18 : News h₀ L h18 [(DQ, listOf #[.str (lrAcc one 3) x1, .str (lrAcc two 3) x2, .str (lrAcc base 3) x3] nQ), (DR, listOf #[.str (lrAcc one 3) w1, .str (lrAcc two 3) w2, .str (lrAcc base 3) w3] nR), (D, listOf #[.int s0 t0, .int s1 t1, .int s2 t2, .int s3 t3, .int s4 t4, .int s5 t5] n), (L + 1 + 1 + 1 + 1 + 1 + 1, o6), (L + 1 + 1 + 1 + 1 + 1, o5), (L + 1 + 1 + 1 + 1, o4), (L + 1 + 1 + 1, o3), (L + 1 + 1, o2)] := fun q hq => N18 q (by
    rcases List.mem_cons.mp hq with rfl | hq
    · exact List.mem_cons_self ..
    · exact List.mem_cons_of_mem _ (List.mem_cons_of_mem _ hq))
  dsimp only
  have hok3 : AllOk [lrAcc one 3, lrAcc two 3, lrAcc base 3] := fun x hx => by
    simp only [List.mem_cons, List.not_mem_nil, or_false] at hx
    rcases hx with rfl | rfl | rfl <;> exact lrAcc_ok _ 3
  refine ks_ne (ns := [lrAcc one 3, lrAcc two 3, lrAcc base 3]) (ms := [lrAcc one 3, lrAcc two 3, lrAcc base 3]) hok3 hok3 (News.isList N18 (List.mem_cons_of_mem _ (List.mem_cons_self ..))) (News.isList N18 (List.mem_cons_self ..)) (strs3 ..) (strs3 ..) (by ke_room) ?_
  rw [decide_eq_true rfl]
  k_steps
  refine Stop.mk ?_
  exact hnext one two base t1' t2' tb DR nR w1 w2 w3 h18 tk18 _ hbase hone htwo F18 hm1 rfl rfl rfl rfl (fun q hq => N18 q (List.mem_cons_of_mem _ hq)) r6 r5 r4 r3 r2 rD
end Mine
end
section
open PySem PySem.W PyProof.Rows
set_option Elab.async false
set_option maxRecDepth 100000
set_option maxHeartbeats 2000000
namespace Mine
open PySem PySem.Spec PySem.Calls
open PyProof.Rows.LCg (NsObj ns_obj)
local macro_rules | `(tactic| walk_at "exec Assign cons ListComp") => `(tactic| (k_here; refine stopAt ?_))
local macro_rules | `(tactic| walk_at "eval ListComp") => `(tactic| (k_here; refine stopAt ?_))
local macro_rules | `(tactic| walk_at "pyIter ref") => `(tactic| (k_here; refine stopAt ?_))
local macro_rules | `(tactic| walk_at "call ref") => `(tactic| (k_here; refine stopAt ?_))
local macro_rules | `(tactic| walk_at "call builtin:str.split") => `(tactic| (k_here; refine stopAt ?_))
local macro_rules | `(tactic| walk_at "execs cons") => `(tactic| (k_here; (with_reducible show wpAny _ _ (execs (Stmt.Assign [PySem.Expr.Name (Str.ofString "table") _] _ _ :: _) _) _ _ _); refine stopAt ?_))
theorem pfWords_len (x : Int) : (pfWords x).length ≤ 12 ∧ ∀ y ∈ pfWords x, y.length ≤ 40 := by
  unfold pfWords
  split
  · refine ⟨by decide, fun y hy => ?_⟩
    rw [List.mem_singleton.mp hy]
    decide
  · exact pfAcc_len (by decide)
theorem pfJoin_len (x : Int) : (Txt.join (Str.ofString ", ") (pfWords x)).length ≤ 1000 := by
  obtain ⟨h1, h2⟩ := pfWords_len x
  have h3 := sum_le40 _ h2
  have h4 : (Txt.join (Str.ofString ", ") (pfWords x)).length = ((pfWords x).map (·.length)).sum + ((pfWords x).length - 1) * (Str.ofString ", ").length := size_glued _ _
  have h5 : (Str.ofString ", ").length = 2 := by decide
  rw [h4, h5]
  omega
def bitsOf (one two base : Int) : Int := Builtin.bitOr (Builtin.bitXor one base) (Builtin.bitXor two base)
theorem law_seg3 (w : World) (mean : ExcName → Option Value) (mg mb : Str → Option Value) :
    ∀ (L fa : Addr) (cd : Value) (h₀ : Heap) (X : (hd.heap_39 w.params).In h₀) (T : Top hd.view_39 (looseW hd.view_39 [Str.ofString "_MIN_DIFF_LEN", Str.ofString "safe_repr", Str.ofString "COMPILER_FLAG_NAMES", Str.ofString "_filemode_table"]) mean mg mb h₀) (B : Below callerA h₀ [] h₀) (s : Shared) (Q : Flow → Shared → Prop) (E : Value → Shared → Prop) (o2 o3 o4 o5 o6 : Obj) (D DR : Addr) (n nR : Nat) (s0 s1 s2 s3 s4 s5 one two base : Int) (t0 t1 t2 t3 t4 t5 ta tb tc w1 w2 w3 : Tok) (m : Str → Option Value), Fr h₀ L s.heap m →
      m (Str.ofString "one") = some (.int one ta) → m (Str.ofString "two") = some (.int two tb) → m (Str.ofString "base") = some (.int base tc) →
      News h₀ L s.heap [(DR, listOf #[.str (lrAcc one 3) w1, .str (lrAcc two 3) w2, .str (lrAcc base 3) w3] nR), (D, listOf #[.int s0 t0, .int s1 t1, .int s2 t2, .int s3 t3, .int s4 t4, .int s5 t5] n), (L + 1 + 1 + 1 + 1 + 1 + 1, o6), (L + 1 + 1 + 1 + 1 + 1, o5), (L + 1 + 1 + 1 + 1, o4), (L + 1 + 1 + 1, o3), (L + 1 + 1, o2)] → @Ne Nat (L + 1 + 1 + 1 + 1 + 1 + 1) DR → @Ne Nat (L + 1 + 1 + 1 + 1 + 1) DR → @Ne Nat (L + 1 + 1 + 1 + 1) DR → @Ne Nat (L + 1 + 1 + 1) DR → @Ne Nat (L + 1 + 1) DR → @Ne Nat D DR → @Ne Nat (L + 1 + 1 + 1 + 1 + 1 + 1) D → @Ne Nat (L + 1 + 1 + 1 + 1 + 1) D → @Ne Nat (L + 1 + 1 + 1 + 1) D → @Ne Nat (L + 1 + 1 + 1) D → @Ne Nat (L + 1 + 1) D → o2.data = .cell none → o3.data = .cell none →
      (∀ x : Int, Builtin.bitAnd x 4095 = x.fmod 4096) → (∀ x : Int, 0 ≤ x → x < 4096 → Txt.split (Txt.join (Str.ofString ", ") (pfWords x)) (Str.ofString ", ") = pfWords x) →
      (∀ (tm : Int) (tt : Tok) (p2 p3 : Obj) (DW : Addr) (l : List (Str × Tok)) h' tk, tm = (bitsOf one two base).fmod 4096 → p2.data = .cell (some (.int tm tt)) → p3.data = .cell (some (.ref DW)) → StrsAre (strValues l) (pfWords tm) → Fr h₀ L h' m →
        News h₀ L h' [(DW, listOf (strValues l).toArray 0), (DR, listOf #[.str (lrAcc one 3) w1, .str (lrAcc two 3) w2, .str (lrAcc base 3) w3] nR), (D, listOf #[.int s0 t0, .int s1 t1, .int s2 t2, .int s3 t3, .int s4 t4, .int s5 t5] n), (L + 1 + 1 + 1 + 1 + 1 + 1, o6), (L + 1 + 1 + 1 + 1 + 1, o5), (L + 1 + 1 + 1 + 1, o4), (L + 1 + 1 + 1, p3), (L + 1 + 1, p2)] → @Ne Nat (L + 1 + 1 + 1 + 1 + 1 + 1) DW → @Ne Nat (L + 1 + 1 + 1 + 1 + 1) DW → @Ne Nat (L + 1 + 1 + 1 + 1) DW → @Ne Nat (L + 1 + 1 + 1) DW → @Ne Nat (L + 1 + 1) DW → @Ne Nat D DW → @Ne Nat DR DW → LawAt w L fa cd 9 Q E { s with heap := h', toks := tk }) →
    LawAt w L fa cd 7 Q E s := by
  dsimp only [LawAt, lawEnv]
  k_fill
  w_on
  intro L fa cd h₀ X T B s Q E o2 o3 o4 o5 o6 D DR n nR s0 s1 s2 s3 s4 s5 one two base t0 t1 t2 t3 t4 t5 ta tb tc w1 w2 w3 m F hm1 hm2 hm3 N r6 r5 r4 r3 r2 rD e6 e5 e4 e3 e2 ho2 ho3 hmask hsplit hnext
  conv in List.drop _ _ => whnf
  generalize hsc : lawScope = sc
  have hsc' := hsc
  conv at hsc' => lhs; whnf
  subst hsc'
  obtain ⟨h1, g1, d1, tk1, os1⟩ := s
  dsimp only at F N ⊢
  generalize lrAcc one 3 = R1 at *
  generalize lrAcc two 3 = R2 at *
  generalize lrAcc base 3 = R3 at *
  (with_reducible show wpAny _ _ _ _ _ _)
  try k_fold
  k_steps
  refine Stop.mk ?_
  (rename Fr _ _ _ _ => F2); (rename News _ _ _ _ => N2)
  refine' (spec_imode _ _ _ _ _ _).use ?k1 F2 ?k3 N2 ?k5 ?kK ?kp ?kd ?ku ?_
  case k1 => k_asm
  case k3 => k_asm
  case k5 => k_asm
  case kK => exact rfl
  case kp => trivial
  case kd => ktr_room
  case ku => ktr_units
  intro ti hi tki Fi Ni
  clear F2 N2
  rw [hmask]
  have hlo : 0 ≤ (bitsOf one two base).fmod 4096 := Int.fmod_nonneg_of_pos _ (by decide)
  have hhi : (bitsOf one two base).fmod 4096 < 4096 := Int.fmod_lt_of_pos _ (by decide)
  have hte : (Builtin.bitOr (Builtin.bitXor one base) (Builtin.bitXor two base)).fmod 4096 = (bitsOf one two base).fmod 4096 := rfl
  rw [hte] at *
  generalize htm : (bitsOf one two base).fmod 4096 = tm at *
  dsimp only
  k_steps
  refine Stop.mk ?_
  refine' (spec_pretty _ _ _ _ _ _).use ?k1 Fi ?k3 Ni ?k5 ?kK ?kp ?kd ?ku ?_
  case k1 => k_asm
  case k3 => k_asm
  case k5 => k_asm
  case kK => exact rfl
  case kp => exact ⟨hlo, hhi⟩
  case kd => ktr_room
  case ku => ktr_units
  intro tp hp tkp Fp Np
  clear Fi Ni
  dsimp only
  k_steps
  refine Stop.mk ?_
  dsimp only [List.cons_append, List.nil_append]
  have hszw : (Txt.join (Str.ofString ", ") (pfWords tm)).length + 2 ≤ sizeLine := by rw [sizeLine_eq]; have := pfJoin_len tm; omega
  have hDn := fun q hq => Nat.ne_of_lt (Heap.lt_size (Np q hq).1)
  refine splitN1A Fp Np (by decide) ?_ hszw
  intro l hl9 k9 el Sl _ Il Fl Nl
  rw [hsplit tm hlo hhi] at el
  rw [el] at Sl
  clear Fp Np Il
  dsimp only at hDn ⊢ Nl
  generalize hp.objs.size = DW at *
  have q6 : @Ne Nat (L + 1 + 1 + 1 + 1 + 1 + 1) DW := hDn (L + 1 + 1 + 1 + 1 + 1 + 1, o6) (by repeat (first | exact List.mem_cons_self .. | refine List.mem_cons_of_mem _ ?_))
  have q5 : @Ne Nat (L + 1 + 1 + 1 + 1 + 1) DW := hDn (L + 1 + 1 + 1 + 1 + 1, o5) (by repeat (first | exact List.mem_cons_self .. | refine List.mem_cons_of_mem _ ?_))
  have q4 : @Ne Nat (L + 1 + 1 + 1 + 1) DW := hDn (L + 1 + 1 + 1 + 1, o4) (by repeat (first | exact List.mem_cons_self .. | refine List.mem_cons_of_mem _ ?_))
  have q3 : @Ne Nat (L + 1 + 1 + 1) DW := hDn (L + 1 + 1 + 1, o3) (by repeat (first | exact List.mem_cons_self .. | refine List.mem_cons_of_mem _ ?_))
  have q2 : @Ne Nat (L + 1 + 1) DW := hDn (L + 1 + 1, _) (by repeat (first | exact List.mem_cons_self .. | refine List.mem_cons_of_mem _ ?_))
  have qD : @Ne Nat D DW := hDn (D, _) (by repeat (first | exact List.mem_cons_self .. | refine List.mem_cons_of_mem _ ?_))
  have qR : @Ne Nat DR DW := hDn (DR, _) (by repeat (first | exact List.mem_cons_self .. | refine List.mem_cons_of_mem _ ?_))
  clear hDn
  k_steps
  refine Stop.mk ?_
  (rename Fr _ _ _ _ => F7); (rename News _ _ _ _ => N7)
  rename_i d3 _
  rename Obj.data _ = Data.cell (some (.int _ _)) => d2
  exact hnext tm _ _ _ DW l _ _ rfl (d2.trans (congrArg (fun z => Data.cell (some (.int z _))) htm)) (by assumption) Sl F7 N7 q6 q5 q4 q3 q2 qD qR
end Mine
end
section
open PySem PySem.W PyProof.Rows
set_option Elab.async false
set_option maxRecDepth 100000
set_option maxHeartbeats 2000000
namespace Mine
open PySem PySem.Spec PySem.Calls
open PyProof.Rows.LCg (NsObj ns_obj)
local macro_rules | `(tactic| walk_at "call ref") => `(tactic| (k_here; refine stopAt ?_))
section
variable {M : Model} {A : Around} {E : Value → Shared → Prop} {s : Shared} {h₀ : Heap} {L a c : Addr} {m : Str → Option Value} {cn : Str} {cs : Scope} {ccd : Value} {cl : List (Str × Addr)} {x : Str} {v : Value} {v₀ : Option Value} {o : Obj} {g : Obj → List (Addr × Obj)} {Q : Unit → Shared → Prop} {news tab : List (Addr × Obj)}
/-- a store into a cell, beside a second ledger -/
theorem storeX_Ctab (F : Fr h₀ L s.heap m) (N : News h₀ L s.heap news) (hc : cl.lookup x = some c) (U : UpdF c o news g) (hd : o.data = .cell v₀) (G : News h₀ L s.heap tab) (hne : ∀ q ∈ tab, q.1 ≠ c)
    (h : ∀ h' o', Fr h₀ L h' m → News h₀ L h' (g o' ++ tab) → o'.data = .cell (some v) → Q () { s with heap := h' })
    (hk : cs.kind = .function := by rfl) (hx : (envX cn cs L a ccd cl).kindOf x = some .cell := by rfl) : wpAny M A (storeName (envX cn cs L a ccd cl) x v) Q E s := by
  obtain ⟨own, rest, rfl, hg, h1, h2⟩ := U.split
  have hmem := N (c, o) (List.mem_append_right _ (.head _))
  refine wpAny_storeName_cell hk hx hc ⟨o, hmem.1, hd⟩ fun h' hv hs => ?_
  obtain ⟨o', ho', hd'⟩ := hv
  refine h h' o' ⟨F.ns.sameBut hs (Ne.symm hmem.2.1), fun b ob e => (hs.2 b (fun q => ?_)).trans (F.keep b ob e), F.above⟩ (fun q hq => ?_) hd'
  · rw [q, hmem.2.2] at e; cases e
  · rcases List.mem_append.mp hq with hq | hq
    · exact (hg o' ▸ N.setAt h1 h2 hs ho' : News h₀ L h' (g o')) q hq
    · exact ⟨(hs.2 q.1 (hne q hq)).trans (G q hq).1, (G q hq).2⟩
end
theorem law_seg4 (w : World) (mean : ExcName → Option Value) (mg mb : Str → Option Value) :
    ∀ (L fa : Addr) (cd : Value) (h₀ : Heap) (X : (hd.heap_39 w.params).In h₀) (T : Top hd.view_39 (looseW hd.view_39 [Str.ofString "_MIN_DIFF_LEN", Str.ofString "safe_repr", Str.ofString "COMPILER_FLAG_NAMES", Str.ofString "_filemode_table"]) mean mg mb h₀) (B : Below callerA h₀ [] h₀) (s : Shared) (Q : Flow → Shared → Prop) (E : Value → Shared → Prop) (o4 o5 o6 p2 p3 : Obj) (D DR DW : Addr) (n nR : Nat) (l : List (Str × Tok)) (s0 s1 s2 s3 s4 s5 tm : Int) (t0 t1 t2 t3 t4 t5 tt w1 w2 w3 : Tok) (R1 R2 R3 : Str) (m : Str → Option Value), Fr h₀ L s.heap m →
      News h₀ L s.heap [(DW, listOf (strValues l).toArray 0), (DR, listOf #[.str R1 w1, .str R2 w2, .str R3 w3] nR), (D, listOf #[.int s0 t0, .int s1 t1, .int s2 t2, .int s3 t3, .int s4 t4, .int s5 t5] n), (L + 1 + 1 + 1 + 1 + 1 + 1, o6), (L + 1 + 1 + 1 + 1 + 1, o5), (L + 1 + 1 + 1 + 1, o4), (L + 1 + 1 + 1, p3), (L + 1 + 1, p2)] → @Ne Nat (L + 1 + 1 + 1 + 1 + 1 + 1) D → @Ne Nat (L + 1 + 1 + 1 + 1 + 1) D → @Ne Nat (L + 1 + 1 + 1 + 1) D → @Ne Nat (L + 1 + 1 + 1) D → @Ne Nat (L + 1 + 1) D → @Ne Nat (L + 1 + 1 + 1 + 1 + 1 + 1) DR → @Ne Nat (L + 1 + 1 + 1 + 1 + 1) DR → @Ne Nat (L + 1 + 1 + 1 + 1) DR → @Ne Nat (L + 1 + 1 + 1) DR → @Ne Nat (L + 1 + 1) DR → @Ne Nat (L + 1 + 1 + 1 + 1 + 1 + 1) DW → @Ne Nat (L + 1 + 1 + 1 + 1 + 1) DW → @Ne Nat (L + 1 + 1 + 1 + 1) DW → @Ne Nat (L + 1 + 1 + 1) DW → @Ne Nat (L + 1 + 1) DW → o4.data = .cell none →
      (∀ (p4 : Obj) (DT : Addr) (es : List TEnt) h' tk, es.map (fun e => (e.word, e.sign)) = tabL → p4.data = .cell (some (.ref DT)) → Fr h₀ L h' m →
        News h₀ L h' ((DW, listOf (strValues l).toArray 0) :: (DR, listOf #[.str R1 w1, .str R2 w2, .str R3 w3] nR) :: (D, listOf #[.int s0 t0, .int s1 t1, .int s2 t2, .int s3 t3, .int s4 t4, .int s5 t5] n) :: (L + 1 + 1 + 1 + 1 + 1 + 1, o6) :: (L + 1 + 1 + 1 + 1 + 1, o5) :: (L + 1 + 1 + 1 + 1, p4) :: (L + 1 + 1 + 1, p3) :: (L + 1 + 1, p2) :: tabNews DT es) → LawAt w L fa cd 10 Q E { s with heap := h', toks := tk }) →
    LawAt w L fa cd 9 Q E s := by
  dsimp only [LawAt, lawEnv]
  k_fill
  w_on
  intro L fa cd h₀ X T B s Q E o4 o5 o6 p2 p3 D DR DW n nR l s0 s1 s2 s3 s4 s5 tm t0 t1 t2 t3 t4 t5 tt w1 w2 w3 R1 R2 R3 m F N e6 e5 e4 e3 e2 r6 r5 r4 r3 r2 q6 q5 q4 q3 q2 ho4 hnext
  conv in List.drop _ _ => whnf
  generalize hsc : lawScope = sc
  have hsc' := hsc
  conv at hsc' => lhs; whnf
  subst hsc'
  obtain ⟨h1, g1, d1, tk1, os1⟩ := s
  dsimp only at F N ⊢
  (with_reducible show wpAny _ _ _ _ _ _)
  try k_fold
  k_steps
  refine Stop.mk ?_
  refine' spec_table _ _ _ _ _ _ _ _ _ _ _ _ _ _ _ _ _ _ _ _ _ ?k1 F ?k3 ?k5 ?kK ?kd ?ku ?_
  case k1 => k_asm
  case k3 => k_asm
  case k5 => k_asm
  case kK => exact rfl
  case kd => ktr_room
  case ku => ktr_units
  intro DT es h2 tk2 st he hes
  dsimp only
  have F2 := frKeep F st
  have N2 := newsKeep N st
  have hL : ∃ o, h1.get? L = some o := by
    obtain ⟨oL, _, _, hL, _⟩ := F.ns
    exact ⟨oL, hL⟩
  obtain ⟨oL, hL⟩ := hL
  have G : News h₀ L h2 (tabNews DT es) := fun q hq => ⟨(hes q hq).1, fun e => (by have := (hes q hq).2; rw [e] at this; rw [hL] at this; cases this), (by
    have h0 := (hes q hq).2
    cases e : h₀.get? q.1 with
    | none => rfl
    | some o => rw [F.keep _ _ e] at h0; cases h0)⟩
  have hne : ∀ q ∈ tabNews DT es, q.1 ≠ L + 1 + 1 + 1 + 1 := fun q hq e => by
    have h0 := (hes q hq).2
    rw [e] at h0
    have h1' := (N (L + 1 + 1 + 1 + 1, o4) (by repeat (first | exact List.mem_cons_self .. | refine List.mem_cons_of_mem _ ?_))).1
    dsimp only at h1'
    rw [h1'] at h0
    cases h0
  k_dflt (refine' storeX_Ctab F2 N2 ?kc ?kU ho4 G hne ?_ ?ka ?kb; (case ka => rfl); (case kb => rfl); (case kc => rfl); (case kU => k_updF); k_whole)
  intro h3 p4 F3 N3 d4
  exact hnext p4 DT es _ _ he d4 F3 N3
end Mine
end
section
open PySem PySem.W PyProof.Rows
set_option Elab.async false
set_option maxRecDepth 100000
set_option maxHeartbeats 2000000
namespace Mine
open PySem PySem.Spec PySem.Calls
open PyProof.Rows.LCg (NsObj ns_obj)
local macro_rules | `(tactic| walk_at "exec Assign cons ListComp") => `(tactic| (k_here; refine stopAt ?_))
local macro_rules | `(tactic| walk_at "eval ListComp") => `(tactic| (k_here; refine stopAt ?_))
local macro_rules | `(tactic| walk_at "pyIter ref") => `(tactic| (k_here; refine stopAt ?_))
local macro_rules | `(tactic| walk_at "call ref") => `(tactic| (k_here; refine stopAt ?_))
local macro_rules | `(tactic| walk_at "execs cons") => `(tactic| (k_here; (with_reducible show wpAny _ _ (execs (Stmt.Assign [PySem.Expr.Name (Str.ofString "column") _] _ _ :: _) _) _ _ _); refine stopAt ?_))
def dueP (tm : Int) (v : Value) : Bool := match v with | .int i _ => decide ((tm.fdiv (2 ^ i.toNat)).fmod 2 = 1) | _ => false
def dueR (v y : Value) : Prop := ∃ (i : Nat) (t t' : Tok), v = .int i t ∧ y = .str (pfW i) t'
theorem walksBound {prog : Program} {w : World} {A : Around} {I : Addr} {fp wr : List Addr} {n : Nat} {P : Nat → Value → Prop} {St : Nat → Heap → Prop} (W : Walks prog w A I fp wr n P St) : Walks prog w A I fp wr n (fun i v => i < n ∧ P i v) St :=
  { W with item := fun i s Q E hi st hQ => W.item i s Q E hi st fun v h' tk hp => hQ v h' tk ⟨hi, hp⟩ }
theorem testOne {prog : Program} {w : World} {A : Around} {s₃ : Shared} {cenv : Env} {c : PySem.Expr} {b : Bool} {E' : Value → Shared → Prop} (h : wpAny (model prog w) A (isTrue c cenv (eval c cenv)) (fun ok s₄ => Stop (ok = b ∧ Keeps s₃ s₄)) E' s₃) :
    wpAny (model prog w) A (testsOf [c] cenv) (fun ok s₄ => ok = b ∧ Keeps s₃ s₄) E' s₃ := by
  refine wpAny_bind (wpAny_bind (wpAny_mono h ?_ ?_))
  · intro ok s₄ hk
    exact wpAny_pure (wpAny_pure hk.out)
  · intro _ _ h; exact h
theorem due_bit (tm : Int) (k : Nat) (t : Tok) : dueP tm (.int (0 + (k : Int)) t) = decide (tm / 2 ^ k % 2 = 1) := by
  have e : (0 + (k : Int)).toNat = k := by omega
  show decide ((tm.fdiv (2 ^ (0 + (k : Int)).toNat)).fmod 2 = 1) = _
  rw [e, Int.fdiv_eq_ediv_of_nonneg _ (Int.le_of_lt (pow_pos' k)), Int.fmod_eq_emod_of_nonneg _ (by decide)]
theorem due_strs (tm : Int) : ∀ (vs ys : List Value) (k : Nat), (∀ j v, vs[j]? = some v → ∃ t, v = Value.int (0 + ((k + j : Nat) : Int)) t) → Paired dueR (vs.filter (dueP tm)) ys →
    StrsAre ys (((List.range' k vs.length).filter fun (k : Nat) => decide (tm / 2 ^ k % 2 = 1)).map pfW)
  | [], ys, k, hv, h => by
    cases h
    exact .nil
  | v :: vs, ys, k, hv, h => by
    obtain ⟨t, rfl⟩ := hv 0 v rfl
    have ih := fun ys h => due_strs tm vs ys (k + 1) (fun j v hj => by
      obtain ⟨t, e⟩ := hv (j + 1) v hj
      exact ⟨t, by rw [e, show k + 1 + j = k + (j + 1) by omega]⟩) h
    rw [List.length_cons, List.range'_succ, List.filter_cons]
    rw [List.filter_cons] at h
    rw [show k + 0 = k from rfl, due_bit] at h
    by_cases hb : tm / 2 ^ k % 2 = 1
    · rw [if_pos (by simpa using hb)] at h ⊢
      cases h with
      | cons hd ht =>
        obtain ⟨i, t1, t2, e1, rfl⟩ := hd
        have e2 : (0 + (k : Int)) = (i : Int) := by injection e1
        have e3 : i = k := by omega
        subst e3
        exact .cons _ _ (ih _ ht)
    · rw [if_neg (by simpa using hb)] at h ⊢
      exact ih _ h
theorem pfAcc_nil {x : Int} (h0 : 0 ≤ x) (h1 : x < 4096) (h : pfAcc x 12 = []) : x = 0 := by
  have hb : ∀ k, k < 12 → ¬ x / 2 ^ k % 2 = 1 := fun k hk hb => by
    have hm : k ∈ (List.range 12).filter fun (k : Nat) => decide (x / 2 ^ k % 2 = 1) := List.mem_filter.mpr ⟨List.mem_range.mpr hk, decide_eq_true hb⟩
    have hn := List.map_eq_nil_iff.mp h
    rw [hn] at hm
    cases hm
  have key : ∀ i, i ≤ 12 → x = x / 2 ^ i * 2 ^ i := by
    intro i
    induction i with
    | zero => intro _; simp
    | succ i ih => intro hi; rw [← pf_keep (hb i (by omega))]; exact ih (by omega)
  have k12 := key 12 (Nat.le_refl _)
  have e : x / 2 ^ 12 = 0 := Int.ediv_eq_zero_of_lt h0 (by omega)
  rw [e] at k12
  omega
theorem tab_word : ∀ i, i < 12 → (tabL[i]?).map (·.1) = some (pfW i) := by decide +kernel
theorem tab_at {es : List TEnt} (hes : es.map (fun e => (e.word, e.sign)) = tabL) {i : Nat} (hi : i < 12) : ∃ e, es[i]? = some e ∧ e ∈ es ∧ e.word = pfW i := by
  have hl : es.length = 12 := by have := congrArg List.length hes; rwa [List.length_map] at this
  have hi' : i < es.length := by omega
  refine ⟨es[i], List.getElem?_eq_getElem hi', List.getElem_mem hi', ?_⟩
  have h := tab_word i hi
  rw [← hes, List.getElem?_map, List.getElem?_eq_getElem hi'] at h
  exact Option.some.inj h
theorem tab_mem {es : List TEnt} {e : TEnt} {DT : Addr} (h : e ∈ es) : (e.at_, tupOf #[.str e.word e.wt, .int e.sign e.st] 0) ∈ tabNews DT es := List.mem_cons_of_mem _ (List.mem_map_of_mem (f := TEnt.obj) h)
theorem pfW_ok : ∀ k, k < 12 → PyData.strOk (pfW k) = true := by decide +kernel
theorem pfAcc_ok (x : Int) : AllOk (pfAcc x 12) := fun y hy => by
  obtain ⟨k, hk, rfl⟩ := List.mem_map.mp hy
  exact pfW_ok k (List.mem_range.mp (List.mem_filter.mp hk).1)
theorem pfWords_ok (x : Int) : AllOk (pfWords x) := by
  unfold pfWords
  split
  · intro y hy
    rw [List.mem_singleton.mp hy]
    decide +kernel
  · exact pfAcc_ok x
local macro_rules | `(tactic| walk_at "binaryOp Pow int int") => `(tactic| (k_here; (with_reducible refine pow_int_small ?kb1 ?kb2 ?kb3 ?_); (case kb1 => omega); (case kb2 => omega); (case kb3 => decide)))
theorem law_seg5 (w : World) (mean : ExcName → Option Value) (mg mb : Str → Option Value) :
    ∀ (L fa : Addr) (cd : Value) (h₀ : Heap) (X : (hd.heap_39 w.params).In h₀) (T : Top hd.view_39 (looseW hd.view_39 [Str.ofString "_MIN_DIFF_LEN", Str.ofString "safe_repr", Str.ofString "COMPILER_FLAG_NAMES", Str.ofString "_filemode_table"]) mean mg mb h₀) (B : Below callerA h₀ [] h₀) (s : Shared) (Q : Flow → Shared → Prop) (E : Value → Shared → Prop) (p4 : Obj) (DT : Addr) (es : List TEnt) (o4 o5 o6 p2 p3 : Obj) (D DR DW : Addr) (n nR : Nat) (l : List (Str × Tok)) (s0 s1 s2 s3 s4 s5 tm : Int) (t0 t1 t2 t3 t4 t5 tt w1 w2 w3 : Tok) (R1 R2 R3 : Str) (m : Str → Option Value), Fr h₀ L s.heap m →
      News h₀ L s.heap ((DW, listOf (strValues l).toArray 0) :: (DR, listOf #[.str R1 w1, .str R2 w2, .str R3 w3] nR) :: (D, listOf #[.int s0 t0, .int s1 t1, .int s2 t2, .int s3 t3, .int s4 t4, .int s5 t5] n) :: (L + 1 + 1 + 1 + 1 + 1 + 1, o6) :: (L + 1 + 1 + 1 + 1 + 1, o5) :: (L + 1 + 1 + 1 + 1, p4) :: (L + 1 + 1 + 1, p3) :: (L + 1 + 1, p2) :: tabNews DT es) → es.map (fun e => (e.word, e.sign)) = tabL → p4.data = .cell (some (.ref DT)) → p2.data = .cell (some (.int tm tt)) → p3.data = .cell (some (.ref DW)) → StrsAre (strValues l) (pfWords tm) → 0 ≤ tm → tm < 4096 →
      (∀ (DU : Addr) h' tk, Fr h₀ L h' (fun z => if z = Str.ofString "due" then some (.ref DU) else m z) →
        News h₀ L h' ((DW, listOf (strValues l).toArray 0) :: (DR, listOf #[.str R1 w1, .str R2 w2, .str R3 w3] nR) :: (D, listOf #[.int s0 t0, .int s1 t1, .int s2 t2, .int s3 t3, .int s4 t4, .int s5 t5] n) :: (L + 1 + 1 + 1 + 1 + 1 + 1, o6) :: (L + 1 + 1 + 1 + 1 + 1, o5) :: (L + 1 + 1 + 1 + 1, p4) :: (L + 1 + 1 + 1, p3) :: (L + 1 + 1, p2) :: tabNews DT es) → LawAt w L fa cd 12 Q E { s with heap := h', toks := tk }) →
    LawAt w L fa cd 10 Q E s := by
  dsimp only [LawAt, lawEnv]
  k_fill
  w_on
  intro L fa cd h₀ X T B s Q E p4 DT es o4 o5 o6 p2 p3 D DR DW n nR l s0 s1 s2 s3 s4 s5 tm t0 t1 t2 t3 t4 t5 tt w1 w2 w3 R1 R2 R3 m F N hes hp4 hp2 hp3 hwd hlo hhi hnext
  conv in List.drop _ _ => whnf
  generalize hsc : lawScope = sc
  have hsc' := hsc
  conv at hsc' => lhs; whnf
  subst hsc'
  obtain ⟨h1, g1, d1, tk1, os1⟩ := s
  dsimp only at F N ⊢
  (with_reducible show wpAny _ _ _ _ _ _)
  try k_fold
  k_steps
  refine Stop.mk ?_
  k_dflt (refine wpAny_Assign_ListComp_free (dueP tm) dueR (by with_unfolding_all rfl) (by with_unfolding_all rfl) (by decide) rfl (by decide) rfl rfl rfl ?_)
  k_steps
  refine Stop.mk ?_
  (rename Fr _ _ _ _ => F3); (rename News _ _ _ _ => N3); (rename IsRange _ _ _ _ _ _ _ _ => R3)
  refine iterRange (n := 12) rfl R3 (by decide) (by decide) F3 N3 ?_
  rintro I s₂ ⟨h7, rfl⟩ W hst hfp hLI hI0 hIn F7 N7 up7 _
  clear F3 N3 R3
  refine compBodyA (L := L) (p := dueP tm) rfl (walksBound W) (by rw [sizeLine_eq]; show 12 ≤ _; omega) hst hfp F7 N7 hLI hI0 hIn ?_ ?_ ?_
  · rintro C oC s₃ m₃ i v E' ⟨hi, t', rfl⟩ hoC hmx F8 N8 hCn
    clear F7 N7 hst hfp up7 W
    obtain ⟨h8, g8, d8, tk8, os8⟩ := s₃
    dsimp only at F8 N8 ⊢
    generalize hx : (0 + (i : Int)) = x at *
    have hx0 : 0 ≤ x := by omega
    have hx1 : x < 12 := by omega
    refine testOne ?_
    k_steps
    exact Stop.mk ⟨rfl, _, _, rfl, fun _ _ e => e⟩
  · rintro C oC s₃ m₃ i v E' ⟨hi, t', rfl⟩ hpv hoC hmx F8 N8 hCn
    clear F7 N7 hst hfp up7 W
    obtain ⟨h8, g8, d8, tk8, os8⟩ := s₃
    dsimp only at F8 N8 ⊢
    k_steps
    obtain ⟨e, hge, hme, hew⟩ := tab_at hes hi
    have hlD : Heap.IsList h8 DT (es.map fun e => Value.ref e.at_).toArray := News.isList N8 (by repeat (first | exact List.mem_cons_self .. | refine List.mem_cons_of_mem _ ?_))
    refine tail_any hlD.typeIs slot_list_getitem.lookup (wpAny_getItem_list hlD (by omega) (by omega) (x := .ref e.at_) (by rw [show (0 + (i : Int)).toNat = i by omega, List.getElem?_toArray, List.getElem?_map, hge]; rfl) ?_) (by with_unfolding_all rfl)
    k_steps
    refine item_tupleT (l := [.str e.word e.wt, .int e.sign e.st]) (News.isTup N8 (by repeat (first | exact tab_mem hme | refine List.mem_cons_of_mem _ ?_))) (by decide) (by decide) rfl rfl ?_
    rw [hew]
    exact Stop.mk ⟨⟨i, _, _, by rw [Int.zero_add], rfl⟩, _, _, rfl, fun _ _ e => e⟩
  rintro DU h8 tk8 ys nU vs8 hDn hlen8 hP8 hF8 F8 N8 hk8
  have hst : StrsAre ys.toList (pfAcc tm 12) := by
    have := due_strs tm vs8 ys.toList 0 (fun j v hj => by obtain ⟨_, t, e⟩ := hP8 j v hj; exact ⟨t, by rw [e, Nat.zero_add]⟩) hF8
    rw [hlen8, ← List.range_eq_range'] at this
    exact this
  clear F7 N7 W hfp hLI hI0 hIn up7 hF8 hlen8 hP8 hk8 hDn
  dsimp only
  k_steps
  (rename Fr _ _ _ _ => F9); (rename News _ _ _ _ => N9)
  refine ks_ne (ns := pfAcc tm 12) (ms := []) (xs := ys.toList) (ys := []) (pfAcc_ok tm) (fun _ h => nomatch h) (News.isList N9 (List.mem_cons_of_mem _ (List.mem_cons_self ..))) (News.isList N9 (List.mem_cons_self ..)) hst .nil (by ke_room) ?_
  by_cases hz : pfAcc tm 12 = []
  · have htz := pfAcc_nil hlo hhi hz
    have hw0 : pfWords tm = [Str.ofString "0x0"] := if_pos htz
    rw [decide_eq_true hz, Bool.not_true]
    k_steps
    (rename Fr _ _ _ _ => F10); (rename News _ _ _ _ => N10)
    refine ks_ne (ns := pfWords tm) (ms := [Str.ofString "0x0"]) (pfWords_ok tm) (hw0 ▸ pfWords_ok tm) (News.isList N10 (by k_mem)) (News.isList N10 (List.mem_cons_self ..)) hwd (.cons _ _ .nil) (by ke_room) ?_
    rw [decide_eq_true hw0, Bool.not_true]
    k_steps
    refine Stop.mk ?_
    (rename Fr _ _ _ _ => F11); (rename News _ _ _ _ => N11)
    exact hnext DU _ _ F11 (fun q hq => N11 q (by repeat (first | exact hq | refine List.mem_cons_of_mem _ ?_)))
  · have htz : tm ≠ 0 := fun e => hz (by rw [e]; decide +kernel)
    have hw0 : pfWords tm = pfAcc tm 12 := if_neg htz
    rw [decide_eq_false hz, Bool.not_false]
    k_steps
    refine ks_ne (ns := pfWords tm) (ms := pfAcc tm 12) (ys := ys.toList) (pfWords_ok tm) (pfAcc_ok tm) (News.isList N9 (by repeat (first | exact List.mem_cons_self .. | refine List.mem_cons_of_mem _ ?_))) (News.isList N9 (List.mem_cons_of_mem _ (List.mem_cons_self ..))) hwd hst (by ke_room) ?_
    rw [decide_eq_true hw0, Bool.not_true]
    k_steps
    refine Stop.mk ?_
    (rename Fr _ _ _ _ => F11); (rename News _ _ _ _ => N11)
    exact hnext DU _ _ F11 (fun q hq => N11 q (by repeat (first | exact hq | refine List.mem_cons_of_mem _ ?_)))
end Mine
end
section
open PySem PySem.W PyProof.Rows
set_option Elab.async false
set_option maxRecDepth 100000
set_option maxHeartbeats 2000000
namespace Mine
open PySem PySem.Spec PySem.Calls
open PyProof.Rows.LCg (NsObj ns_obj)
local macro_rules | `(tactic| walk_at "pad3") => `(tactic| fail)
local macro_rules | `(tactic| walk_at "eval ListComp") => `(tactic| (k_here; refine stopAt ?_))
local macro_rules | `(tactic| walk_at "pyIter ref") => `(tactic| (k_here; refine stopAt ?_))
local macro_rules | `(tactic| walk_at "binaryOp Add ref ref") => `(tactic| (k_here; refine stopAt ?_))
local macro_rules | `(tactic| walk_at "call builtin:min") => `(tactic| (k_here; refine stopAt ?_))
local macro_rules | `(tactic| walk_at "compareOp In") => `(tactic| (k_here; refine stopAt ?_))
local macro_rules | `(tactic| walk_at "execs cons") => `(tactic| (k_here; (with_reducible show wpAny _ _ (execs (Stmt.Assign [PySem.Expr.Name (Str.ofString "kinds") _] _ _ :: _) _) _ _ _); refine stopAt ?_))
def sgnL (tm : Int) : List Int := (tabL.filter fun p => decide (p.1 ∈ pfWords tm)).map (·.2)
def colP (tm : Int) (v : Value × Value) : Bool := match v.1 with | .str a _ => decide (a ∈ pfWords tm) | _ => false
def colR (v : Value × Value) (y : Value) : Prop := y = v.2
theorem any_mem (a : Str) : ∀ ns : List Str, (ns.any fun x => x == a) = decide (a ∈ ns)
  | [] => rfl
  | y :: ns => by
    rw [List.any_cons, any_mem a ns]
    by_cases e : y = a
    · subst e; simp
    · have e' : ¬ a = y := fun q => e q.symm
      simp [e, e']
theorem rows_are {rows : List (Value × Value)} {vs : List (Value × Value)} (hl : vs.length = rows.length) (h : ∀ (j : Nat) v, vs[j]? = some v → rows[j]? = some v) : vs = rows := by
  refine List.ext_getElem? fun j => ?_
  by_cases hj : j < vs.length
  · have h1 : vs[j]? = some vs[j] := List.getElem?_eq_getElem hj
    rw [h1, h j _ h1]
  · rw [List.getElem?_eq_none (by omega), List.getElem?_eq_none (by omega)]
abbrev entRow (e : TEnt) : Addr × Value × Value := (e.at_, .str e.word e.wt, .int e.sign e.st)
theorem col_ints (tm : Int) : ∀ (es : List TEnt) (ys : List Value), Paired colR ((es.map fun e => (entRow e).2).filter (colP tm)) ys → IntsAre ys (((es.map fun e => (e.word, e.sign)).filter fun p => decide (p.1 ∈ pfWords tm)).map (·.2))
  | [], ys, h => by cases h; exact .nil
  | e :: es, ys, h => by
    rw [List.map_cons, List.filter_cons] at h ⊢
    have hc : colP tm (entRow e).2 = decide (e.word ∈ pfWords tm) := rfl
    rw [hc] at h
    by_cases hb : e.word ∈ pfWords tm
    · rw [if_pos (by simpa using hb)] at h ⊢
      cases h with
      | cons hd ht =>
        cases hd
        exact .cons _ _ (col_ints tm es _ ht)
    · rw [if_neg (by simpa using hb)] at h ⊢
      exact col_ints tm es _ h
theorem sgn_len (tm : Int) : (sgnL tm).length ≤ 12 := by
  unfold sgnL
  rw [List.length_map]
  exact Nat.le_trans (List.length_filter_le _ _) (Nat.le_of_eq (by decide))
theorem law_seg6 (w : World) (mean : ExcName → Option Value) (mg mb : Str → Option Value) :
    ∀ (L fa : Addr) (cd : Value) (h₀ : Heap) (X : (hd.heap_39 w.params).In h₀) (T : Top hd.view_39 (looseW hd.view_39 [Str.ofString "_MIN_DIFF_LEN", Str.ofString "safe_repr", Str.ofString "COMPILER_FLAG_NAMES", Str.ofString "_filemode_table"]) mean mg mb h₀) (B : Below callerA h₀ [] h₀) (s : Shared) (Q : Flow → Shared → Prop) (E : Value → Shared → Prop) (p4 : Obj) (DT : Addr) (es : List TEnt) (o4 o5 o6 p2 p3 : Obj) (D DR DW : Addr) (n nR : Nat) (l : List (Str × Tok)) (s0 s1 s2 s3 s4 s5 tm : Int) (t0 t1 t2 t3 t4 t5 tt w1 w2 w3 : Tok) (R1 R2 R3 : Str) (m : Str → Option Value), Fr h₀ L s.heap m →
      News h₀ L s.heap ((DW, listOf (strValues l).toArray 0) :: (DR, listOf #[.str R1 w1, .str R2 w2, .str R3 w3] nR) :: (D, listOf #[.int s0 t0, .int s1 t1, .int s2 t2, .int s3 t3, .int s4 t4, .int s5 t5] n) :: (L + 1 + 1 + 1 + 1 + 1 + 1, o6) :: (L + 1 + 1 + 1 + 1 + 1, o5) :: (L + 1 + 1 + 1 + 1, p4) :: (L + 1 + 1 + 1, p3) :: (L + 1 + 1, p2) :: tabNews DT es) → es.map (fun e => (e.word, e.sign)) = tabL → p4.data = .cell (some (.ref DT)) → p3.data = .cell (some (.ref DW)) → StrsAre (strValues l) (pfWords tm) →
      (∀ (col : Int) (tcol : Tok) h' tk, col ∈ 10 :: sgnL tm → (∀ a ∈ 10 :: sgnL tm, col ≤ a) → Fr h₀ L h' (fun z => if z = Str.ofString "column" then some (.int col tcol) else m z) →
        News h₀ L h' [(DR, listOf #[.str R1 w1, .str R2 w2, .str R3 w3] nR), (D, listOf #[.int s0 t0, .int s1 t1, .int s2 t2, .int s3 t3, .int s4 t4, .int s5 t5] n), (L + 1 + 1 + 1 + 1 + 1 + 1, o6), (L + 1 + 1 + 1 + 1 + 1, o5)] → LawAt w L fa cd 13 Q E { s with heap := h', toks := tk }) →
    LawAt w L fa cd 12 Q E s := by
  dsimp only [LawAt, lawEnv]
  k_fill
  w_on
  intro L fa cd h₀ X T B s Q E p4 DT es o4 o5 o6 p2 p3 D DR DW n nR l s0 s1 s2 s3 s4 s5 tm t0 t1 t2 t3 t4 t5 tt w1 w2 w3 R1 R2 R3 m F N hes hp4 hp3 hwd hnext
  conv in List.drop _ _ => whnf
  generalize hsc : lawScope = sc
  have hsc' := hsc
  conv at hsc' => lhs; whnf
  subst hsc'
  obtain ⟨h1, g1, d1, tk1, os1⟩ := s
  dsimp only at F N ⊢
  (with_reducible show wpAny _ _ _ _ _ _)
  try k_fold
  k_steps
  refine Stop.mk ?_
  (rename Fr _ _ _ _ => F3); (rename News _ _ _ _ => N3)
  refine listCompP (L := L) (h₀ := h₀) (m := m) rfl (by with_unfolding_all rfl) (by decide) rfl (by decide) rfl rfl (by decide) ?_
  k_steps
  refine Stop.mk ?_
  have hlD := News.isList (items := (es.map fun e => Value.ref e.at_).toArray) N3 (a := DT) (by repeat (first | exact List.mem_cons_self .. | refine List.mem_cons_of_mem _ ?_))
  refine iterList (items := (es.map fun e => Value.ref e.at_).toArray) rfl hlD F3 N3 ?_
  rintro I s₂ ⟨h7, rfl⟩ _ hst hfp hLI hI0 hIn F7 N7 up7 _
  have hT : ∀ e ∈ es, Heap.IsTuple h7 e.at_ #[.str e.word e.wt, .int e.sign e.st] := fun e he => isTuple_news N7 (by repeat (first | exact tab_mem he | refine List.mem_cons_of_mem _ ?_))
  have hTI : ∀ e ∈ es, e.at_ ≠ I := fun e he => hIn (e.at_, tupOf #[.str e.word e.wt, .int e.sign e.st] 0) (by repeat (first | exact tab_mem he | refine List.mem_cons_of_mem _ ?_))
  have hDI : DT ≠ I := hIn (DT, _) (by repeat (first | exact List.mem_cons_self .. | refine List.mem_cons_of_mem _ ?_))
  have hl12 : es.length = 12 := by have := congrArg List.length hes; rwa [List.length_map] at this
  have hrm : (es.map entRow).map (fun r => Value.ref r.1) = es.map fun e => Value.ref e.at_ := by rw [List.map_map]; rfl
  refine ⟨I, _, [I], _, _, _, _, _, colR, colP tm, rfl, WalkP.listTup rfl I DT hDI (es.map entRow) ?_, ?_, ?_, ?_, F7, N7, ?_, ?_, ?_, ?_, ?_, ?_⟩
  · intro r hr
    obtain ⟨e, he, rfl⟩ := List.mem_map.mp hr
    exact hTI e he
  · rw [List.length_map, hl12, sizeLine_eq]; decide
  · refine ⟨hst.1, ?_, ?_⟩
    · rw [hrm]; exact hst.2
    · intro r hr
      obtain ⟨e, he, rfl⟩ := List.mem_map.mp hr
      exact hT e he
  · intro b hb
    rcases List.mem_cons.mp hb with rfl | hb
    · exact hfp _ (List.mem_cons_self ..)
    rcases List.mem_cons.mp hb with rfl | hb
    · exact hfp _ (List.mem_cons_of_mem _ (List.mem_cons_self ..))
    · obtain ⟨r, hr, rfl⟩ := List.mem_map.mp hb
      obtain ⟨e, he, rfl⟩ := List.mem_map.mp hr
      obtain ⟨o, ho, _⟩ := hT e he
      exact Heap.lt_size ho
  · intro q; exact hLI (List.mem_singleton.mp q)
  · intro b hb; rw [List.mem_singleton.mp hb]; exact hI0
  · intro q hq hm; exact hIn q hq (List.mem_singleton.mp hm)
  · rintro C oC s₃ m₃ i v E' ⟨r, hr, rfl⟩ hoC hma hmb F8 N8 hCn
    rw [List.getElem?_map] at hr
    obtain ⟨e, he, rfl⟩ := Option.map_eq_some_iff.mp hr
    dsimp only [entRow] at hma hmb
    clear F7 N7 hst hfp up7
    obtain ⟨h8, g8, d8, tk8, os8⟩ := s₃
    dsimp only at F8 N8 ⊢
    refine testOne ?_
    k_steps
    exact Stop.mk ⟨any_mem _ _, _, _, rfl, fun _ _ e => e⟩
  · rintro C oC s₃ m₃ i v E' ⟨r, hr, rfl⟩ _ hoC hma hmb F8 N8 hCn
    rw [List.getElem?_map] at hr
    obtain ⟨e, he, rfl⟩ := Option.map_eq_some_iff.mp hr
    dsimp only [entRow] at hma hmb
    clear F7 N7 hst hfp up7
    obtain ⟨h8, g8, d8, tk8, os8⟩ := s₃
    dsimp only at F8 N8 ⊢
    k_steps
    exact Stop.mk ⟨rfl, _, _, rfl, fun _ _ e => e⟩
  rintro DC h8 tk8 ys nC vs8 hDn hlen8 hP8 hF8 F8 N8
  have hvs : vs8 = es.map fun e => (entRow e).2 := rows_are (by rw [hlen8, List.length_map, List.length_map]) fun j v hj => by
    obtain ⟨r, hr, rfl⟩ := hP8 j v hj
    rw [List.getElem?_map] at hr ⊢
    obtain ⟨e, he, rfl⟩ := Option.map_eq_some_iff.mp hr
    rw [he]
    rfl
  rw [hvs] at hF8
  have hci := col_ints tm es ys.toList hF8
  rw [hes] at hci
  replace hci : IntsAre ys.toList (sgnL tm) := hci
  clear hP8 hF8 hlen8 hvs hst hT hTI hDI hrm F7 N7 hIn hfp up7 F3 N3 hlD
  dsimp only at N8 F8 ⊢
  refine kmk_add_ints (ns := [10]) (ms := sgnL tm) (ws := ys.toList) F8 N8 (News.isList N8 (List.mem_cons_of_mem _ (List.mem_cons_self ..))) (News.isList N8 (List.mem_cons_self ..)) (.cons _ _ .nil) hci ?_ (by rw [sizeLine_eq]; have := sgn_len tm; show 1 + _ ≤ _; omega)
  intro D9 us h9 F9 N9 _ hIu
  clear F8 N8
  k_steps
  refine Stop.mk ?_
  refine kso_min F9 N9 (News.isList N9 (List.mem_cons_self ..)) hIu (by show 0 < (10 :: sgnL tm).length; exact Nat.zero_lt_succ _) rfl ?_
  intro h10 col tcol tk10 F10 N10 hin hmin
  clear F9 N9
  dsimp only
  k_steps
  refine Stop.mk ?_
  (rename Fr _ _ _ _ => F11); (rename News _ _ _ _ => N11)
  exact hnext col tcol _ _ hin hmin F11 (fun q hq => N11 q (by
    simp only [List.mem_cons, List.not_mem_nil, or_false] at hq ⊢
    rcases hq with hq | hq | hq | hq <;> simp [hq]))
end Mine
end
section
open PySem PySem.W PyProof.Rows
set_option Elab.async false
set_option maxRecDepth 100000
set_option maxHeartbeats 2000000
namespace Mine
open PySem PySem.Spec PySem.Calls
open PyProof.Rows.LCg (NsObj ns_obj)
local macro_rules | `(tactic| walk_at "exec Assign cons ListComp") => `(tactic| (k_here; refine stopAt ?_))
local macro_rules | `(tactic| walk_at "pyIter ref") => `(tactic| (k_here; refine stopAt ?_))
local macro_rules | `(tactic| walk_at "call ref") => `(tactic| (k_here; refine stopAt ?_))
local macro_rules | `(tactic| walk_at "execs cons") => `(tactic| (k_here; (with_reducible show wpAny _ _ (execs (Stmt.Assign [PySem.Expr.Name (Str.ofString "ahead") _] _ _ :: _) _) _ _ _); refine stopAt ?_))
local macro_rules | `(tactic| walk_at "subscriptTail") => `(tactic| (k_here; (with_reducible show wpAny _ _ (subscriptTail _ _ (Value.str _ _) _) _ _ _); refine stopAt ?_))
theorem law_seg7 (w : World) (mean : ExcName → Option Value) (mg mb : Str → Option Value) :
    ∀ (L fa : Addr) (cd : Value) (h₀ : Heap) (X : (hd.heap_39 w.params).In h₀) (T : Top hd.view_39 (looseW hd.view_39 [Str.ofString "_MIN_DIFF_LEN", Str.ofString "safe_repr", Str.ofString "COMPILER_FLAG_NAMES", Str.ofString "_filemode_table"]) mean mg mb h₀) (B : Below callerA h₀ [] h₀) (s : Shared) (Q : Flow → Shared → Prop) (E : Value → Shared → Prop) (o5 o6 : Obj) (D DR : Addr) (n nR : Nat) (s0 s1 s2 s3 s4 s5 one two base col : Int) (t0 t1 t2 t3 t4 t5 ta tb tc tcol w1 w2 w3 : Tok) (R1 R2 R3 : Str) (m : Str → Option Value), Fr h₀ L s.heap m →
      m (Str.ofString "one") = some (.int one ta) → m (Str.ofString "two") = some (.int two tb) → m (Str.ofString "base") = some (.int base tc) → m (Str.ofString "column") = some (.int col tcol) →
      News h₀ L s.heap [(DR, listOf #[.str R1 w1, .str R2 w2, .str R3 w3] nR), (D, listOf #[.int s0 t0, .int s1 t1, .int s2 t2, .int s3 t3, .int s4 t4, .int s5 t5] n), (L + 1 + 1 + 1 + 1 + 1 + 1, o6), (L + 1 + 1 + 1 + 1 + 1, o5)] → (∀ x : Int, (Builtin.bitAnd x 61440).fdiv 4096 = (x.fdiv 4096).fmod 16) →
      (∀ (col' : Int) (tcol' : Tok) h' tk (m' : Str → Option Value), col' = (if lrAcc two 0 = lrAcc one 0 ∧ lrAcc base 0 = lrAcc one 0 then col else 0) → Fr h₀ L h' m' → m' (Str.ofString "column") = some (.int col' tcol') →
        m' (Str.ofString "rows") = m (Str.ofString "rows") → m' (Str.ofString "sums") = m (Str.ofString "sums") →
        News h₀ L h' [(DR, listOf #[.str R1 w1, .str R2 w2, .str R3 w3] nR), (D, listOf #[.int s0 t0, .int s1 t1, .int s2 t2, .int s3 t3, .int s4 t4, .int s5 t5] n), (L + 1 + 1 + 1 + 1 + 1 + 1, o6), (L + 1 + 1 + 1 + 1 + 1, o5)] → LawAt w L fa cd 15 Q E { s with heap := h', toks := tk }) →
    LawAt w L fa cd 13 Q E s := by
  dsimp only [LawAt, lawEnv]
  k_fill
  w_on
  intro L fa cd h₀ X T B s Q E o5 o6 D DR n nR s0 s1 s2 s3 s4 s5 one two base col t0 t1 t2 t3 t4 t5 ta tb tc tcol w1 w2 w3 R1 R2 R3 m F hm1 hm2 hm3 hmc N hkd hnext
  conv in List.drop _ _ => whnf
  generalize hsc : lawScope = sc
  have hsc' := hsc
  conv at hsc' => lhs; whnf
  subst hsc'
  obtain ⟨h1, g1, d1, tk1, os1⟩ := s
  dsimp only at F N ⊢
  (with_reducible show wpAny _ _ _ _ _ _)
  try k_fold
  k_steps
  refine Stop.mk ?_
  k_dflt (refine wpAny_Assign_ListComp_free (fun _ => true) (isRel fun x => lrAcc x 0) (by with_unfolding_all rfl) (by with_unfolding_all rfl) (by decide) rfl (by decide) rfl rfl rfl ?_)
  k_steps
  refine Stop.mk ?_
  (rename Fr _ _ _ _ => F3); (rename News _ _ _ _ => N3)
  refine iterTup (items := #[.int one ta, .int two tb, .int base tc]) rfl (isTuple_news N3 (List.mem_cons_self ..)) F3 N3 ?_
  rintro I s₂ ⟨h7, rfl⟩ W hst hfp hLI hI0 hIn F7 N7 up7 _
  clear F3 N3
  refine compBodyA (L := L) (p := fun _ => true) rfl W (by rw [sizeLine_eq]; show 3 ≤ _; omega) hst hfp F7 N7 hLI hI0 hIn (fun _ _ _ _ _ _ _ _ _ _ _ _ _ => testNil) ?_ ?_
  · rintro C oC s₃ m₃ i v E' hv _ hoC hmx F8 N8 hCn
    obtain ⟨xv, t', rfl⟩ := int3_is hv
    clear F7 N7 hst hfp up7
    obtain ⟨h8, g8, d8, tk8, os8⟩ := s₃
    dsimp only at F8 N8 ⊢
    k_steps
    refine Stop.mk ?_
    refine' (spec_ifmt _ _ _ _ _ _).useK ?k1 F8 ?k3 N8 ?k5 ?kK ?kp ?kd ?ku ?_
    case k1 => k_asm
    case k3 => k_asm
    case k5 => k_asm
    case kK => exact rfl
    case kp => trivial
    case kd => ktr_room
    case ku => ktr_units
    intro t9 h9 tk9 st9 F9 N9
    clear F8 N8
    dsimp only
    k_steps
    refine Stop.mk ?_
    rw [hkd]
    refine item_str_fmod (by decide) (by decide +kernel) (by decide +kernel) ?_
    intro t10
    exact Stop.mk ⟨⟨_, _, _, rfl, rfl⟩, _, _, rfl, st9⟩
  rintro DK h8 tk8 ys nK vs8 hDn hlen8 hP8 hF8 F8 N8 hk8
  obtain ⟨x1, x2, x3, rfl⟩ := six3 hF8 hlen8 hP8
  clear F7 N7 W hst hfp hLI hI0 hIn up7 hF8 hlen8 hP8 hk8
  dsimp only
  k_steps
  (rename Fr _ _ _ _ => F9); (rename News _ _ _ _ => N9)
  have hok : AllOk [lrAcc one 0, lrAcc two 0, lrAcc base 0] := fun x hx => by
    simp only [List.mem_cons, List.not_mem_nil, or_false] at hx
    rcases hx with rfl | rfl | rfl <;> exact lrAcc_ok _ 0
  have hok1 : AllOk [lrAcc one 0, lrAcc one 0, lrAcc one 0] := fun x hx => by
    simp only [List.mem_cons, List.not_mem_nil, or_false] at hx
    rcases hx with rfl | rfl | rfl <;> exact lrAcc_ok _ 0
  refine ks_ne (ns := [lrAcc one 0, lrAcc two 0, lrAcc base 0]) (ms := [lrAcc one 0, lrAcc one 0, lrAcc one 0]) hok hok1 (News.isList N9 (List.mem_cons_of_mem _ (List.mem_cons_of_mem _ (List.mem_cons_self ..)))) (News.isList N9 (List.mem_cons_self ..)) (strs3 ..) (strs3 ..) (by ke_room) ?_
  by_cases hz : lrAcc two 0 = lrAcc one 0 ∧ lrAcc base 0 = lrAcc one 0
  · rw [decide_eq_true (by rw [hz.1, hz.2]), Bool.not_true]
    k_steps
    refine Stop.mk ?_
    (rename Fr _ _ _ _ => F11); (rename News _ _ _ _ => N11)
    exact hnext col tcol _ _ _ (if_pos hz).symm F11 hmc rfl rfl (fun q hq => N11 q (by repeat (first | exact hq | refine List.mem_cons_of_mem _ ?_)))
  · rw [decide_eq_false (fun e => hz (by injection e with _ e; injection e with e1 e; injection e with e2 _; exact ⟨e1, e2⟩)), Bool.not_false]
    k_steps
    refine Stop.mk ?_
    (rename Fr _ _ _ _ => F11); (rename News _ _ _ _ => N11)
    exact hnext 0 _ _ _ _ (if_neg hz).symm F11 rfl rfl rfl (fun q hq => N11 q (by repeat (first | exact hq | refine List.mem_cons_of_mem _ ?_)))
end Mine
end
section
open PySem PySem.W PyProof.Rows
set_option Elab.async false
set_option maxRecDepth 100000
set_option maxHeartbeats 2000000
namespace Mine
open PySem PySem.Spec PySem.Calls
open PyProof.Rows.LCg (NsObj ns_obj)
local macro_rules | `(tactic| walk_at "storeName") => `(tactic| (k_here; (with_reducible show wpAny _ _ (storeName _ _ (Value.int _ _)) _ _ _); (with_reducible rename Fr _ _ _ _ => kF'); (with_reducible rename News _ _ _ _ => kN'); k_dflt (refine storeGenI kF' kN' ?_); intro b9 t9 tk9 h9 hb9 F9 N9; clear kF' kN'; dsimp only; refine stopAt ?_))
local macro_rules | `(tactic| walk_at "execs cons") => `(tactic| (k_here; (with_reducible show wpAny _ _ (execs (Stmt.Assign [PySem.Expr.Name (Str.ofString "front") _] _ _ :: _) _) _ _ _); refine stopAt ?_))
theorem law_seg8 (w : World) (mean : ExcName → Option Value) (mg mb : Str → Option Value) :
    ∀ (L fa : Addr) (cd : Value) (h₀ : Heap) (X : (hd.heap_39 w.params).In h₀) (T : Top hd.view_39 (looseW hd.view_39 [Str.ofString "_MIN_DIFF_LEN", Str.ofString "safe_repr", Str.ofString "COMPILER_FLAG_NAMES", Str.ofString "_filemode_table"]) mean mg mb h₀) (B : Below callerA h₀ [] h₀) (s : Shared) (Q : Flow → Shared → Prop) (E : Value → Shared → Prop) (o5 o6 : Obj) (D DR : Addr) (n nR : Nat) (s0 s1 s2 s3 s4 s5 : Int) (t0 t1 t2 t3 t4 t5 w1 w2 w3 : Tok) (R1 R2 R3 : Str) (m : Str → Option Value), Fr h₀ L s.heap m →
      m (Str.ofString "sums") = some (.ref D) → News h₀ L s.heap [(DR, listOf #[.str R1 w1, .str R2 w2, .str R3 w3] nR), (D, listOf #[.int s0 t0, .int s1 t1, .int s2 t2, .int s3 t3, .int s4 t4, .int s5 t5] n), (L + 1 + 1 + 1 + 1 + 1 + 1, o6), (L + 1 + 1 + 1 + 1 + 1, o5)] →
      (∀ (a b c d : Int) (u1 u2 u3 u4 : Tok) h' tk (m' : Str → Option Value), a = s3.fmod 9 → b = 1 + s4.fmod 9 → c = s5.fmod 3 → d = (s5.fdiv 3).fmod 10 → Fr h₀ L h' m' →
        m' (Str.ofString "ahead") = some (.int a u1) → m' (Str.ofString "behind") = some (.int b u2) → m' (Str.ofString "more") = some (.int c u3) → m' (Str.ofString "lead") = some (.int d u4) →
        m' (Str.ofString "rows") = m (Str.ofString "rows") → m' (Str.ofString "column") = m (Str.ofString "column") →
        News h₀ L h' [(DR, listOf #[.str R1 w1, .str R2 w2, .str R3 w3] nR), (L + 1 + 1 + 1 + 1 + 1 + 1, o6), (L + 1 + 1 + 1 + 1 + 1, o5)] → LawAt w L fa cd 19 Q E { s with heap := h', toks := tk }) →
    LawAt w L fa cd 15 Q E s := by
  dsimp only [LawAt, lawEnv]
  k_fill
  w_on
  intro L fa cd h₀ X T B s Q E o5 o6 D DR n nR s0 s1 s2 s3 s4 s5 t0 t1 t2 t3 t4 t5 w1 w2 w3 R1 R2 R3 m F hms N hnext
  conv in List.drop _ _ => whnf
  generalize hsc : lawScope = sc
  have hsc' := hsc
  conv at hsc' => lhs; whnf
  subst hsc'
  obtain ⟨h1, g1, d1, tk1, os1⟩ := s
  dsimp only at F N ⊢
  (with_reducible show wpAny _ _ _ _ _ _)
  try k_fold
  k_steps
  refine Stop.mk ?_
  rename_i a u1 tk1 h1 ha F1 N1
  k_steps
  refine Stop.mk ?_
  rename_i b u2 tk2 h2 hb F2 N2
  k_steps
  refine Stop.mk ?_
  rename_i c u3 tk3 h3 hc F3 N3
  k_steps
  refine Stop.mk ?_
  rename_i d u4 tk4 h4 hd' F4 N4
  k_steps
  refine Stop.mk ?_
  exact hnext a b c d u1 u2 u3 u4 _ _ _ ha hb hc hd' F4 rfl rfl rfl rfl rfl rfl (fun q hq => N4 q (by
    simp only [List.mem_cons, List.not_mem_nil, or_false] at hq ⊢
    rcases hq with hq | hq | hq <;> simp [hq]))
end Mine
end
section
open PySem PySem.W PyProof.Rows
set_option Elab.async false
set_option maxRecDepth 100000
set_option maxHeartbeats 2000000
namespace Mine
open PySem PySem.Spec PySem.Calls
open PyProof.Rows.LCg (NsObj ns_obj)
theorem lenMul10 {x : Str} {n : Int} (hx : x.length ≤ 10) (h0 : 0 ≤ n) (h1 : n ≤ 100) : (Txt.mul x n).length ≤ 1000 := by
  have h1' : n ≤ ((100 : Nat) : Int) := h1
  exact len_mul_leN hx h1'
section
variable {prog : Program} {w : World} {A : Around} {E : Value → Shared → Prop} {s : Shared} {x y : Str} {t u : Tok} {Q : Value → Shared → Prop}
theorem mulB {n : Int} (hx : x.length ≤ 10) (h0 : 0 ≤ n) (h1 : n ≤ 100) (h : ∀ t' k, (Txt.mul x n).length ≤ 1000 → Q (.str (Txt.mul x n) t') { s with toks := k }) : wpAny (model prog w) A (binaryOp .Mult (.str x t) (.int n u)) Q E s :=
  SB.mul (mulOk_of 10 100 hx (by omega) (by omega) (by decide) (by decide)) fun t' k => h t' k (lenMul10 hx h0 h1)
theorem addB (hx : x.length ≤ 4000) (hy : y.length ≤ 4000) (h : ∀ t' k, (x ++ y).length = x.length + y.length → Q (.str (x ++ y) t') { s with toks := k }) : wpAny (model prog w) A (binaryOp .Add (.str x t) (.str y u)) Q E s :=
  SB.add (fun t' k => h t' k (Str.length_append x y)) (by rw [sizeLine_eq]; omega)
end
local macro_rules | `(tactic| walk_at "binaryOp Mult str int") => `(tactic| (k_here; refine mulB (by first | omega | decide) (by omega) (by omega) ?_; intro _ _ _))
local macro_rules | `(tactic| walk_at "binaryOp Add str str") => `(tactic| (k_here; refine addB (by omega) (by omega) ?_; intro _ _ _))
local macro_rules | `(tactic| walk_at "execs cons") => `(tactic| (k_here; (with_reducible show wpAny _ _ (execs (Stmt.Assign [PySem.Expr.Name (Str.ofString "head") _] _ _ :: _) _) _ _ _); refine stopAt ?_))
theorem newsDrop {h₀ h : Heap} {L : Addr} {x y : Addr × Obj} {rest : List (Addr × Obj)} (N : News h₀ L h (x :: y :: rest)) : News h₀ L h (x :: rest) := fun q hq => N q (by
  rcases List.mem_cons.mp hq with rfl | hq
  · exact List.mem_cons_self ..
  · exact List.mem_cons_of_mem _ (List.mem_cons_of_mem _ hq))
abbrev frontOf (d a : Int) (R3 : Str) : Str := Txt.mul (Str.ofString "a") d ++ Txt.mul R3 a
theorem law_seg9 (w : World) (mean : ExcName → Option Value) (mg mb : Str → Option Value) :
    ∀ (L fa : Addr) (cd : Value) (h₀ : Heap) (X : (hd.heap_39 w.params).In h₀) (T : Top hd.view_39 (looseW hd.view_39 [Str.ofString "_MIN_DIFF_LEN", Str.ofString "safe_repr", Str.ofString "COMPILER_FLAG_NAMES", Str.ofString "_filemode_table"]) mean mg mb h₀) (B : Below callerA h₀ [] h₀) (s : Shared) (Q : Flow → Shared → Prop) (E : Value → Shared → Prop) (o5 o6 : Obj) (DR : Addr) (nR : Nat) (a b c d : Int) (u1 u2 u3 u4 w1 w2 w3 : Tok) (R1 R2 R3 : Str) (m : Str → Option Value), Fr h₀ L s.heap m →
      m (Str.ofString "ahead") = some (.int a u1) → m (Str.ofString "behind") = some (.int b u2) → m (Str.ofString "more") = some (.int c u3) → m (Str.ofString "lead") = some (.int d u4) → m (Str.ofString "rows") = some (.ref DR) →
      0 ≤ a → a < 9 → 1 ≤ b → b < 10 → 0 ≤ c → c < 3 → 0 ≤ d → d < 10 → R1.length = 10 → R2.length = 10 → R3.length = 10 → News h₀ L s.heap [(DR, listOf #[.str R1 w1, .str R2 w2, .str R3 w3] nR), (L + 1 + 1 + 1 + 1 + 1 + 1, o6), (L + 1 + 1 + 1 + 1 + 1, o5)] →
      (∀ (DG : Addr) (v1 v2 v3 : Tok) h' tk (m' : Str → Option Value), Fr h₀ L h' m' →
        m' (Str.ofString "ahead") = m (Str.ofString "ahead") → m' (Str.ofString "behind") = m (Str.ofString "behind") → m' (Str.ofString "more") = m (Str.ofString "more") → m' (Str.ofString "lead") = m (Str.ofString "lead") → m' (Str.ofString "column") = m (Str.ofString "column") → m' (Str.ofString "things") = some (.ref DG) →
        News h₀ L h' [(DG, listOf #[.str (frontOf d a R3 ++ Txt.mul R1 b) v1, .str (frontOf d a R3 ++ Txt.mul R2 b) v2, .str (frontOf d a R3 ++ Txt.mul R3 (b + c)) v3] 0), (L + 1 + 1 + 1 + 1 + 1 + 1, o6), (L + 1 + 1 + 1 + 1 + 1, o5)] →
        @Ne Nat (L + 1 + 1 + 1 + 1 + 1 + 1) DG → @Ne Nat (L + 1 + 1 + 1 + 1 + 1) DG → LawAt w L fa cd 21 Q E { s with heap := h', toks := tk }) →
    LawAt w L fa cd 19 Q E s := by
  dsimp only [LawAt, lawEnv]
  k_fill
  w_on
  intro L fa cd h₀ X T B s Q E o5 o6 DR nR a b c d u1 u2 u3 u4 w1 w2 w3 R1 R2 R3 m F hma hmb hmc hmd hmr a0 a1 b0 b1 c0 c1 d0 d1 hl1 hl2 hl3 N hnext
  conv in List.drop _ _ => whnf
  generalize hsc : lawScope = sc
  have hsc' := hsc
  conv at hsc' => lhs; whnf
  subst hsc'
  obtain ⟨h1, g1, d1', tk1, os1⟩ := s
  dsimp only at F N ⊢
  (with_reducible show wpAny _ _ _ _ _ _)
  try k_fold
  k_steps
  refine Stop.mk ?_
  (rename Fr _ _ _ _ => F11); (rename News _ _ _ _ => N11)
  exact hnext _ _ _ _ _ _ _ F11 rfl rfl rfl rfl rfl rfl (newsDrop N11) (by omega) (by omega)
end Mine
end
section
open PySem PySem.W PyProof.Rows
set_option Elab.async false
set_option maxRecDepth 100000
set_option maxHeartbeats 2000000
namespace Mine
open PySem PySem.Spec PySem.Calls
open PyProof.Rows.LCg (NsObj ns_obj)
local macro_rules | `(tactic| walk_at "execs cons") => `(tactic| (k_here; (with_reducible show wpAny _ _ (execs (Stmt.Assign [PySem.Expr.Name (Str.ofString "told") _] _ _ :: _) _) _ _ _); refine stopAt ?_))
local macro_rules | `(tactic| walk_at "ite") => `(tactic| (k_here; refine stopAt ?_))
def headOf (a b c d col : Int) : Int := if col = 10 then 1 + d + 10 * (a + b) + (if c = 0 then 1 else 0) else 1 + d + 10 * a + col
def mostOf (a b c d : Int) : Int := d + 10 * (a + b + c) + 2
theorem law_seg10 (w : World) (mean : ExcName → Option Value) (mg mb : Str → Option Value) :
    ∀ (L fa : Addr) (cd : Value) (h₀ : Heap) (X : (hd.heap_39 w.params).In h₀) (T : Top hd.view_39 (looseW hd.view_39 [Str.ofString "_MIN_DIFF_LEN", Str.ofString "safe_repr", Str.ofString "COMPILER_FLAG_NAMES", Str.ofString "_filemode_table"]) mean mg mb h₀) (B : Below callerA h₀ [] h₀) (s : Shared) (Q : Flow → Shared → Prop) (E : Value → Shared → Prop) (o5 o6 : Obj) (DG : Addr) (a b c d col : Int) (u1 u2 u3 u4 u5 v1 v2 v3 : Tok) (G1 G2 G3 : Str) (m : Str → Option Value), Fr h₀ L s.heap m →
      m (Str.ofString "ahead") = some (.int a u1) → m (Str.ofString "behind") = some (.int b u2) → m (Str.ofString "more") = some (.int c u3) → m (Str.ofString "lead") = some (.int d u4) → m (Str.ofString "column") = some (.int col u5) →
      News h₀ L s.heap [(DG, listOf #[.str G1 v1, .str G2 v2, .str G3 v3] 0), (L + 1 + 1 + 1 + 1 + 1 + 1, o6), (L + 1 + 1 + 1 + 1 + 1, o5)] → @Ne Nat (L + 1 + 1 + 1 + 1 + 1 + 1) DG → @Ne Nat (L + 1 + 1 + 1 + 1 + 1) DG → o5.data = .cell none → o6.data = .cell none →
      (∀ (p5 p6 : Obj) (th tm : Tok) h' tk, p5.data = .cell (some (.int (headOf a b c d col) th)) → p6.data = .cell (some (.int (mostOf a b c d) tm)) → Fr h₀ L h' m →
        News h₀ L h' [(DG, listOf #[.str G1 v1, .str G2 v2, .str G3 v3] 0), (L + 1 + 1 + 1 + 1 + 1 + 1, p6), (L + 1 + 1 + 1 + 1 + 1, p5)] → LawAt w L fa cd 24 Q E { s with heap := h', toks := tk }) →
    LawAt w L fa cd 21 Q E s := by
  dsimp only [LawAt, lawEnv]
  k_fill
  w_on
  intro L fa cd h₀ X T B s Q E o5 o6 DG a b c d col u1 u2 u3 u4 u5 v1 v2 v3 G1 G2 G3 m F hma hmb hmc hmd hmk N e6 e5 ho5 ho6 hnext
  conv in List.drop _ _ => whnf
  generalize hsc : lawScope = sc
  have hsc' := hsc
  conv at hsc' => lhs; whnf
  subst hsc'
  obtain ⟨h1, g1, d1', tk1, os1⟩ := s
  dsimp only at F N ⊢
  (with_reducible show wpAny _ _ _ _ _ _)
  try k_fold
  k_steps
  refine Stop.mk ?_
  by_cases hc : col = 10
  · rw [if_pos (by simp [hc])]
    k_steps
    refine Stop.mk ?_
    by_cases hz : c = 0
    · rw [if_pos (by simp [hz])]
      k_steps
      refine Stop.mk ?_
      (rename Fr _ _ _ _ => F11); (rename News _ _ _ _ => N11)
      refine' hnext _ _ _ _ _ _ ?h5 ?h6 F11 N11
      case h5 => (unfold headOf; rw [if_pos hc, if_pos hz]; assumption)
      case h6 => (unfold mostOf; assumption)
    · rw [if_neg (by simp [hz])]
      k_steps
      refine Stop.mk ?_
      (rename Fr _ _ _ _ => F11); (rename News _ _ _ _ => N11)
      refine' hnext _ _ _ _ _ _ ?h5 ?h6 F11 N11
      case h5 => (unfold headOf; rw [if_pos hc, if_neg hz]; assumption)
      case h6 => (unfold mostOf; assumption)
  · rw [if_neg (by simp [hc])]
    k_steps
    refine Stop.mk ?_
    (rename Fr _ _ _ _ => F11); (rename News _ _ _ _ => N11)
    refine' hnext _ _ _ _ _ _ ?h5 ?h6 F11 N11
    case h5 => (unfold headOf; rw [if_neg hc]; assumption)
    case h6 => (unfold mostOf; assumption)
end Mine
end
section
open PySem PySem.W PyProof.Rows
set_option Elab.async false
set_option maxRecDepth 100000
set_option maxHeartbeats 2000000
namespace Mine
open PySem PySem.Spec PySem.Calls
open PyProof.Rows.LCg (NsObj ns_obj)
local macro_rules | `(tactic| walk_at "exec Assign cons ListComp") => `(tactic| (k_here; refine stopAt ?_))
local macro_rules | `(tactic| walk_at "pyIter ref") => `(tactic| (k_here; refine stopAt ?_))
local macro_rules | `(tactic| walk_at "call ref") => `(tactic| (k_here; refine stopAt ?_))
local macro_rules | `(tactic| walk_at "binaryOp Add str str") => `(tactic| (k_here; refine addB (by first | omega | exact Nat.le_of_ble_eq_true rfl) (by first | omega | exact Nat.le_of_ble_eq_true rfl) ?_; intro _ _ _))
def qt (x : Str) : Str := Str.ofString "'" ++ x ++ Str.ofString "'"
def strRelF (f : Str → Str) (G1 G2 G3 : Str) (v y : Value) : Prop := ∃ x t t', v = .str x t ∧ y = .str (f x) t'
theorem str3_is {a b c : Str} {t u v : Tok} {i : Nat} {x : Value} (h : (#[Value.str a t, .str b u, .str c v] : Array Value)[i]? = some x) : ∃ n t', x = .str n t' ∧ (n = a ∨ n = b ∨ n = c) := by
  match i, h with
  | 0, h => exact ⟨_, _, (Option.some.inj h).symm, .inl rfl⟩
  | 1, h => exact ⟨_, _, (Option.some.inj h).symm, .inr (.inl rfl)⟩
  | 2, h => exact ⟨_, _, (Option.some.inj h).symm, .inr (.inr rfl)⟩
theorem str3S {f : Str → Str} {a b c : Str} {t u v : Tok} {vs : List Value} {ys : Array Value} (h : Paired (strRelF f a b c) (vs.filter fun _ => true) ys.toList) (hl : vs.length = (#[Value.str a t, .str b u, .str c v] : Array Value).size) (hv : ∀ (j : Nat) x, vs[j]? = some x → (#[Value.str a t, .str b u, .str c v] : Array Value)[j]? = some x) :
    ∃ t' u' v', ys = #[.str (f a) t', .str (f b) u', .str (f c) v'] := by
  obtain ⟨x, y, z, rfl, ⟨_, _, t', q0, rfl⟩, ⟨_, _, u', q1, rfl⟩, ⟨_, _, v', q2, rfl⟩⟩ := paired3 h hl hv
  cases q0
  cases q1
  cases q2
  exact ⟨t', u', v', rfl⟩
theorem law_seg11 (w : World) (mean : ExcName → Option Value) (mg mb : Str → Option Value) :
    ∀ (L fa : Addr) (cd : Value) (h₀ : Heap) (X : (hd.heap_39 w.params).In h₀) (T : Top hd.view_39 (looseW hd.view_39 [Str.ofString "_MIN_DIFF_LEN", Str.ofString "safe_repr", Str.ofString "COMPILER_FLAG_NAMES", Str.ofString "_filemode_table"]) mean mg mb h₀) (B : Below callerA h₀ [] h₀) (s : Shared) (Q : Flow → Shared → Prop) (E : Value → Shared → Prop) (p5 p6 : Obj) (DG : Addr) (H M : Int) (th tm v1 v2 v3 : Tok) (G1 G2 G3 : Str) (m : Str → Option Value), Fr h₀ L s.heap m →
      m (Str.ofString "things") = some (.ref DG) → News h₀ L s.heap [(DG, listOf #[.str G1 v1, .str G2 v2, .str G3 v3] 0), (L + 1 + 1 + 1 + 1 + 1 + 1, p6), (L + 1 + 1 + 1 + 1 + 1, p5)] → p5.data = .cell (some (.int H th)) → p6.data = .cell (some (.int M tm)) → 0 ≤ H → H < 1000 → 0 ≤ M → M < 1000 → G1.length ≤ 990 → G2.length ≤ 990 → G3.length ≤ 990 →
      (∀ (DO : Addr) (nO : Nat) (x1 x2 x3 : Tok) h' tk, Fr h₀ L h' (fun z => if z = Str.ofString "told" then some (.ref DO) else m z) →
        News h₀ L h' [(DO, listOf #[.str (toldOf (qt G1) M H) x1, .str (toldOf (qt G2) M H) x2, .str (toldOf (qt G3) M H) x3] nO), (DG, listOf #[.str G1 v1, .str G2 v2, .str G3 v3] 0)] → LawAt w L fa cd 25 Q E { s with heap := h', toks := tk }) →
    LawAt w L fa cd 24 Q E s := by
  dsimp only [LawAt, lawEnv]
  k_fill
  w_on
  intro L fa cd h₀ X T B s Q E p5 p6 DG H M th tm v1 v2 v3 G1 G2 G3 m F hmt N hp5 hp6 H0 H1 M0 M1 hg1 hg2 hg3 hnext
  conv in List.drop _ _ => whnf
  generalize hsc : lawScope = sc
  have hsc' := hsc
  conv at hsc' => lhs; whnf
  subst hsc'
  obtain ⟨h1, g1, d1', tk1, os1⟩ := s
  dsimp only at F N ⊢
  (with_reducible show wpAny _ _ _ _ _ _)
  try k_fold
  k_steps
  refine Stop.mk ?_
  k_dflt (refine wpAny_Assign_ListComp_free (fun _ => true) (strRelF (fun x => toldOf (qt x) M H) G1 G2 G3) (by with_unfolding_all rfl) (by with_unfolding_all rfl) (by decide) rfl (by decide) rfl rfl rfl ?_)
  k_steps
  refine Stop.mk ?_
  (rename Fr _ _ _ _ => F3); (rename News _ _ _ _ => N3)
  refine iterList (items := #[.str G1 v1, .str G2 v2, .str G3 v3]) rfl (News.isList N3 (List.mem_cons_self ..)) F3 N3 ?_
  rintro I s₂ ⟨h7, rfl⟩ W hst hfp hLI hI0 hIn F7 N7 up7 _
  clear F3 N3
  refine compBodyA (L := L) (p := fun _ => true) rfl W (by rw [sizeLine_eq]; show 3 ≤ _; omega) hst hfp F7 N7 hLI hI0 hIn (fun _ _ _ _ _ _ _ _ _ _ _ _ _ => testNil) ?_ ?_
  · rintro C oC s₃ m₃ i v E' hv _ hoC hmx F8 N8 hCn
    obtain ⟨xv, t', rfl, hxv⟩ := str3_is hv
    have hxl : xv.length ≤ 990 := by rcases hxv with rfl | rfl | rfl <;> assumption
    clear F7 N7 hst hfp up7
    obtain ⟨h8, g8, d8, tk8, os8⟩ := s₃
    dsimp only at F8 N8 ⊢
    k_steps
    refine Stop.mk ?_
    have hq1 : (Str.ofString "'").length = 1 := by decide
    refine' (spec_law_told _ _ _ _ _ _ _ _ _ _).useK ?k1 F8 ?k3 N8 ?k5 ?kK ?kp ?kd ?ku ?_
    case k1 => k_asm
    case k3 => k_asm
    case k5 => k_asm
    case kK => exact rfl
    case kp => exact ⟨M0, H0, M1, H1, by omega⟩
    case kd => ktr_room
    case ku => ktr_units
    intro t9 h9 tk9 st9 F9 N9
    exact Stop.mk ⟨⟨_, _, _, rfl, rfl⟩, _, _, rfl, st9⟩
  rintro DO h8 tk8 ys nO vs8 hDn hlen8 hP8 hF8 F8 N8 hk8
  obtain ⟨x1, x2, x3, rfl⟩ := str3S hF8 hlen8 hP8
  clear F7 N7 W hst hfp hLI hI0 hIn up7 hF8 hlen8 hP8 hk8
  dsimp only
  exact hnext DO nO x1 x2 x3 _ _ F8 (fun q hq => N8 q (by
    simp only [List.mem_cons, List.not_mem_nil, or_false] at hq ⊢
    rcases hq with hq | hq <;> simp [hq]))
end Mine
end
section
open PySem PySem.W PyProof.Rows
set_option Elab.async false
set_option maxRecDepth 100000
set_option maxHeartbeats 2000000
namespace Mine
open PySem PySem.Spec PySem.Calls
open PyProof.Rows.LCg (NsObj ns_obj)
local macro_rules | `(tactic| walk_at "call ref") => `(tactic| (k_here; refine stopAt ?_))
local macro_rules | `(tactic| walk_at "compareOp Eq ref ref") => `(tactic| (k_here; refine stopAt ?_))
open PySem.SeqAt in
theorem eqS {A : Around} {s : Shared} (x : Str) (t u : Tok) : EqAt A s (.str x t) (.str x u) true := by
  have := EqAt.str_str (A := A) (s := s) x t x u
  rwa [beq_self_eq_true] at this
theorem law_seg12 (w : World) (mean : ExcName → Option Value) (mg mb : Str → Option Value) :
    ∀ (L fa : Addr) (cd : Value) (h₀ : Heap) (X : (hd.heap_39 w.params).In h₀) (T : Top hd.view_39 (looseW hd.view_39 [Str.ofString "_MIN_DIFF_LEN", Str.ofString "safe_repr", Str.ofString "COMPILER_FLAG_NAMES", Str.ofString "_filemode_table"]) mean mg mb h₀) (B : Below callerA h₀ [] h₀) (s : Shared) (Q : Flow → Shared → Prop) (E : Value → Shared → Prop) (DG DO P : Addr) (nO : Nat) (v1 v2 v3 x1 x2 x3 : Tok) (G1 G2 G3 T1 T2 T3 : Str) (m : Str → Option Value), Fr h₀ L s.heap m →
      m (Str.ofString "things") = some (.ref DG) → m (Str.ofString "told") = some (.ref DO) → News h₀ L s.heap [(DO, listOf #[.str T1 x1, .str T2 x2, .str T3 x3] nO), (DG, listOf #[.str G1 v1, .str G2 v2, .str G3 v3] 0)] → AllBare s.gens → Based h₀ h₀ 60 P #[] →
      (∀ i, i < (min3S (reprText G1) (reprText G2) (reprText G3)).length → (∀ j, j < i → (min3S (reprText G1) (reprText G2) (reprText G3)).cps[j]? = (max3S (reprText G1) (reprText G2) (reprText G3)).cps[j]?) → i < (max3S (reprText G1) (reprText G2) (reprText G3)).length) → (reprText G1).length < 1000 → (reprText G2).length < 1000 → (reprText G3).length < 1000 →
      csrOf (reprText G1) (reprText G2) (reprText G3) (reprText G1) = T1 → csrOf (reprText G1) (reprText G2) (reprText G3) (reprText G2) = T2 → csrOf (reprText G1) (reprText G2) (reprText G3) (reprText G3) = T3 →
      (∀ hX ps m' s', Based h₀ hX 60 P ps → Fr hX L s'.heap m' → AllBare s'.gens → s'.os = s.os → Q (.ret (.bool true)) s') →
    LawAt w L fa cd 25 Q E s := by
  dsimp only [LawAt, lawEnv]
  k_fill
  w_on
  intro L fa cd h₀ X T B s Q E DG DO P nO v1 v2 v3 x1 x2 x3 G1 G2 G3 T1 T2 T3 m F hmt hmo N hg BS hok hl1 hl2 hl3 q1 q2 q3 hnext
  conv in List.drop _ _ => whnf
  generalize hsc : lawScope = sc
  have hsc' := hsc
  conv at hsc' => lhs; whnf
  subst hsc'
  obtain ⟨h1, g1, d1', tk1, os1⟩ := s
  dsimp only at F N hg ⊢
  (with_reducible show wpAny _ _ _ _ _ _)
  try k_fold
  k_steps
  refine Stop.mk ?_
  refine' spec_csr _ _ _ _ P _ _ _ _ _ _ _ _ _ _ _ _ _ _ _ _ _ _ _ _ _ _ _ ?k1 F ?k3 ?k5 ?kK hg BS hok hl1 hl2 hl3 ?kd ?ku ?_
  case k1 => k_asm
  case k3 => k_asm
  case k5 => k_asm
  case kK => exact rfl
  case kd => ktr_room
  case ku => ktr_units
  rw [q1, q2, q3]
  intro DC s' y1 y2 y3 hos hbare hTC hnew hcs
  have key : ∃ hX ps, Based h₀ hX 60 P ps ∧ Fr hX L s'.heap m ∧ (hd.heap_39 w.params).In hX ∧ TopRead hd.view_39 (looseW hd.view_39 [Str.ofString "_MIN_DIFF_LEN", Str.ofString "safe_repr", Str.ofString "COMPILER_FLAG_NAMES", Str.ofString "_filemode_table"]) mg mb hX := by
    rcases hcs with st | ⟨more, hx, hc, ht⟩
    · exact ⟨h₀, #[], BS, frKeep F st, X, topRead_of T⟩
    · obtain ⟨BS', F'⟩ := BS.grow F hx hc ht
      exact ⟨_, _, BS', F', kb_in_regrown BS X T.g (k_classed _), LGe.top_regrown F' (topRead_of T) BS⟩
  have old : ∀ b o, h1.get? b = some o → h₀.get? b = none → s'.heap.get? b = some o := fun b o e hn => by
    rcases hcs with st | ⟨more, hx, hc, ht⟩
    · exact st b o e
    · refine hx b o (fun q => ?_) e
      have hc0 := BS.tab.2
      rw [q, hc0] at hn
      cases hn
  obtain ⟨hX, ps, BX, FX, XX, TX⟩ := key
  obtain ⟨oC, hoC, hcC, nC, hdC⟩ := id hTC
  have hL : ∃ o, h1.get? L = some o := by
    obtain ⟨oL, _, _, hL, _⟩ := F.ns
    exact ⟨oL, hL⟩
  obtain ⟨oL, hL⟩ := hL
  have NX : News hX L s'.heap [(DC, oC), (DO, listOf #[.str T1 x1, .str T2 x2, .str T3 x3] nO)] := by
    intro q hq
    rcases List.mem_cons.mp hq with rfl | hq
    · refine ⟨hoC, fun e => ?_, BX.fresh ?_⟩
      · have e' : DC = L := e
        have hn : h1.get? DC = none := hnew
        rw [e', hL] at hn
        cases hn
      · cases e : h₀.get? DC with
        | none => rfl
        | some o =>
          have hn : h1.get? DC = none := hnew
          rw [F.keep _ _ e] at hn
          cases hn
    · rw [List.mem_singleton.mp hq]
      have := N (DO, listOf #[.str T1 x1, .str T2 x2, .str T3 x3] nO) (List.mem_cons_self ..)
      exact ⟨old _ _ this.1 this.2.2, this.2.1, BX.fresh this.2.2⟩
  clear F N X T B BS hTC hnew hcs old hL hoC
  obtain ⟨h2, g2, d2', tk2, os2⟩ := s'
  dsimp only at FX NX hbare hos ⊢
  k_steps
  refine Stop.mk ?_
  (rename Fr _ _ _ _ => F11); (rename News _ _ _ _ => N11)
  refine PySem.SeqAt.eq_tupleAt (items := #[.str T1 y1, .str T2 y2, .str T3 y3]) (items2 := #[.str T1 x1, .str T2 x2, .str T3 x3]) (e := fun _ => true) ⟨oC, (N11 (DC, oC) (by repeat (first | exact List.mem_cons_self .. | refine List.mem_cons_of_mem _ ?_))).1, hcC, nC, hdC⟩ (isTuple_news N11 (List.mem_cons_self ..)) (by ke_room) ?_ ?_
  · intro j h1' h2'
    match j, h1' with
    | 0, _ => exact eqS T1 y1 x1
    | 1, _ => exact eqS T2 y2 x2
    | 2, _ => exact eqS T3 y3 x3
  · exact hnext _ _ _ _ BX F11 hbare hos
end Mine
end
end
section
open PySem PySem.W PyProof.Rows
set_option Elab.async false
set_option maxRecDepth 100000
set_option maxHeartbeats 2000000
namespace Mine
open PySem PySem.Spec PySem.Calls
open PyProof.Rows.LCg (NsObj ns_obj)
def PureFin : Prop := ∀ (s0 s1 s2 a b c d base one two tm col col2 : Int), base = s0.fmod 65536 * 65537 → one = turnOf base s1 → two = turnOf base s2 → tm = (bitsOf one two base).fmod 4096 →
  col ∈ 10 :: sgnL tm → (∀ x ∈ 10 :: sgnL tm, col ≤ x) → col2 = (if lrAcc two 0 = lrAcc one 0 ∧ lrAcc base 0 = lrAcc one 0 then col else 0) →
  0 ≤ a → a < 9 → 1 ≤ b → b < 10 → 0 ≤ c → c < 3 → 0 ≤ d → d < 10 →
  ∀ G1 G2 G3 : Str, G1 = frontOf d a (lrAcc base 3) ++ Txt.mul (lrAcc one 3) b → G2 = frontOf d a (lrAcc base 3) ++ Txt.mul (lrAcc two 3) b → G3 = frontOf d a (lrAcc base 3) ++ Txt.mul (lrAcc base 3) (b + c) →
    (G1.length ≤ 990 ∧ G2.length ≤ 990 ∧ G3.length ≤ 990) ∧ (0 ≤ headOf a b c d col2 ∧ headOf a b c d col2 < 1000) ∧ ((reprText G1).length < 1000 ∧ (reprText G2).length < 1000 ∧ (reprText G3).length < 1000) ∧ (∀ i, i < (min3S (reprText G1) (reprText G2) (reprText G3)).length → (∀ j, j < i → (min3S (reprText G1) (reprText G2) (reprText G3)).cps[j]? = (max3S (reprText G1) (reprText G2) (reprText G3)).cps[j]?) → i < (max3S (reprText G1) (reprText G2) (reprText G3)).length) ∧ csrOf (reprText G1) (reprText G2) (reprText G3) (reprText G1) = toldOf (qt G1) (mostOf a b c d) (headOf a b c d col2) ∧ csrOf (reprText G1) (reprText G2) (reprText G3) (reprText G2) = toldOf (qt G2) (mostOf a b c d) (headOf a b c d col2) ∧ csrOf (reprText G1) (reprText G2) (reprText G3) (reprText G3) = toldOf (qt G3) (mostOf a b c d) (headOf a b c d col2)
structure PureLaw : Prop where
  row : ∀ x : Int, fmS x = lrAcc x 3
  mask : ∀ x : Int, Builtin.bitAnd x 4095 = x.fmod 4096
  split : ∀ x : Int, 0 ≤ x → x < 4096 → Txt.split (Txt.join (Str.ofString ", ") (pfWords x)) (Str.ofString ", ") = pfWords x
  kind : ∀ x : Int, (Builtin.bitAnd x 61440).fdiv 4096 = (x.fdiv 4096).fmod 16
  len : ∀ x : Int, (lrAcc x 3).length = 10
  fin : PureFin
theorem most_low {a b c d : Int} (a0 : 0 ≤ a) (b0 : 1 ≤ b) (c0 : 0 ≤ c) (d0 : 0 ≤ d) : 0 ≤ mostOf a b c d := by
  unfold mostOf
  omega
theorem most_up {a b c d : Int} (a1 : a < 9) (b1 : b < 10) (c1 : c < 3) (d1 : d < 10) : mostOf a b c d < 1000 := by
  unfold mostOf
  omega
theorem law_chain (PL : PureLaw) (w : World) (mean : ExcName → Option Value) (mg mb : Str → Option Value) (L fa : Addr) (cd : Value) (h₀ : Heap) (X : (hd.heap_39 w.params).In h₀) (T : Top hd.view_39 (looseW hd.view_39 [Str.ofString "_MIN_DIFF_LEN", Str.ofString "safe_repr", Str.ofString "COMPILER_FLAG_NAMES", Str.ofString "_filemode_table"]) mean mg mb h₀) (B : Below callerA h₀ [] h₀) (lst P : Addr) (vs : List Value) (ns : List Int) (s : Shared) (Q : Flow → Shared → Prop) (E : Value → Shared → Prop) (o1 o2 o3 o4 o5 o6 : Obj)
    (hl : h₀.IsList lst vs.toArray) (hi : IntsAre vs ns) (hn : ns.length ≤ 63) (hlay : PyData.layable0 (PyData.list (List.map PyData.int ns)) = true)
    (F : Fr h₀ L s.heap (fun y => if y = Str.ofString "script" then some (.ref lst) else none))
    (N : News h₀ L s.heap [(L + 1 + 1 + 1 + 1 + 1 + 1, o6), (L + 1 + 1 + 1 + 1 + 1, o5), (L + 1 + 1 + 1 + 1, o4), (L + 1 + 1 + 1, o3), (L + 1 + 1, o2), (L + 1, o1)]) (ho1 : o1.data = .cell none) (ho2 : o2.data = .cell none) (ho3 : o3.data = .cell none) (ho4 : o4.data = .cell none) (ho5 : o5.data = .cell none) (ho6 : o6.data = .cell none)
    (hg : AllBare s.gens) (BS : Based h₀ h₀ 60 P #[])
    (hnext : ∀ hX ps m' s', Based h₀ hX 60 P ps → Fr hX L s'.heap m' → AllBare s'.gens → s'.os = s.os → Q (.ret (.bool true)) s') : LawAt w L fa cd 0 Q E s := by
  refine law_seg1 w mean mg mb L fa cd h₀ X T B lst vs ns s Q E o1 o2 o3 o4 o5 o6 hl hi hn hlay F N ho1 ?_
  intro D n s0 s1 s2 s3 s4 s5 t0 t1 t2 t3 t4 t5 h1 tk1 m1 F1 hs1 N1 e6 e5 e4 e3 e2
  refine law_seg2 w mean mg mb L fa cd h₀ X T B _ Q E o2 o3 o4 o5 o6 D n s0 s1 s2 s3 s4 s5 t0 t1 t2 t3 t4 t5 m1 F1 hs1 N1 e6 e5 e4 e3 e2 PL.row ?_
  intro one two base ta tb tc DR nR w1 w2 w3 h2 tk2 m2 hbase hone htwo F2 hs2 k1 k2 k3 kr N2 r6 r5 r4 r3 r2 rD
  refine law_seg3 w mean mg mb L fa cd h₀ X T B _ Q E o2 o3 o4 o5 o6 D DR n nR s0 s1 s2 s3 s4 s5 one two base t0 t1 t2 t3 t4 t5 ta tb tc w1 w2 w3 m2 F2 k1 k2 k3 N2 r6 r5 r4 r3 r2 rD e6 e5 e4 e3 e2 ho2 ho3 PL.mask PL.split ?_
  intro tm tt p2 p3 DW l h3 tk3 htm hp2 hp3 hwd F3 N3 q6 q5 q4 q3 q2 qD qR
  have hlo : 0 ≤ tm := htm ▸ Int.fmod_nonneg_of_pos _ (by decide)
  have hhi : tm < 4096 := htm ▸ Int.fmod_lt_of_pos _ (by decide)
  refine law_seg4 w mean mg mb L fa cd h₀ X T B _ Q E o4 o5 o6 p2 p3 D DR DW n nR l s0 s1 s2 s3 s4 s5 tm t0 t1 t2 t3 t4 t5 tt w1 w2 w3 (lrAcc one 3) (lrAcc two 3) (lrAcc base 3) m2 F3 N3 e6 e5 e4 e3 e2 r6 r5 r4 r3 r2 q6 q5 q4 q3 q2 ho4 ?_
  intro p4 DT es h4 tk4 hes hp4 F4 N4
  refine law_seg5 w mean mg mb L fa cd h₀ X T B _ Q E p4 DT es o4 o5 o6 p2 p3 D DR DW n nR l s0 s1 s2 s3 s4 s5 tm t0 t1 t2 t3 t4 t5 tt w1 w2 w3 (lrAcc one 3) (lrAcc two 3) (lrAcc base 3) m2 F4 N4 hes hp4 hp2 hp3 hwd hlo hhi ?_
  intro DU h5 tk5 F5 N5
  refine law_seg6 w mean mg mb L fa cd h₀ X T B _ Q E p4 DT es o4 o5 o6 p2 p3 D DR DW n nR l s0 s1 s2 s3 s4 s5 tm t0 t1 t2 t3 t4 t5 tt w1 w2 w3 (lrAcc one 3) (lrAcc two 3) (lrAcc base 3) _ F5 N5 hes hp4 hp3 hwd ?_
  intro col tcol h6 tk6 hin hmin F6 N6
  refine law_seg7 w mean mg mb L fa cd h₀ X T B _ Q E o5 o6 D DR n nR s0 s1 s2 s3 s4 s5 one two base col t0 t1 t2 t3 t4 t5 ta tb tc tcol w1 w2 w3 (lrAcc one 3) (lrAcc two 3) (lrAcc base 3) _ F6 k1 k2 k3 rfl N6 PL.kind ?_
  intro col2 tcol2 h7 tk7 m7 hc2 F7 kc7 kr7 ks7 N7
  refine law_seg8 w mean mg mb L fa cd h₀ X T B _ Q E o5 o6 D DR n nR s0 s1 s2 s3 s4 s5 t0 t1 t2 t3 t4 t5 w1 w2 w3 (lrAcc one 3) (lrAcc two 3) (lrAcc base 3) m7 F7 (ks7.trans hs2) N7 ?_
  intro a b c d u1 u2 u3 u4 h8 tk8 m8 ha hb hc hd' F8 ka kb kc kd kr8 kk8 N8
  have a0 : 0 ≤ a := ha ▸ Int.fmod_nonneg_of_pos _ (by decide)
  have a1 : a < 9 := ha ▸ Int.fmod_lt_of_pos _ (by decide)
  have b0 : 1 ≤ b := by have := Int.fmod_nonneg_of_pos s4 (b := 9) (by decide); omega
  have b1 : b < 10 := by have := Int.fmod_lt_of_pos s4 (b := 9) (by decide); omega
  have c0 : 0 ≤ c := hc ▸ Int.fmod_nonneg_of_pos _ (by decide)
  have c1 : c < 3 := hc ▸ Int.fmod_lt_of_pos _ (by decide)
  have d0 : 0 ≤ d := hd' ▸ Int.fmod_nonneg_of_pos _ (by decide)
  have d1 : d < 10 := hd' ▸ Int.fmod_lt_of_pos _ (by decide)
  refine law_seg9 w mean mg mb L fa cd h₀ X T B _ Q E o5 o6 DR nR a b c d u1 u2 u3 u4 w1 w2 w3 (lrAcc one 3) (lrAcc two 3) (lrAcc base 3) m8 F8 ka kb kc kd (kr8.trans (kr7.trans kr)) a0 a1 b0 b1 c0 c1 d0 d1 (PL.len _) (PL.len _) (PL.len _) N8 ?_
  intro DG v1 v2 v3 h9 tk9 m9 F9 ka9 kb9 kc9 kd9 kk9 kt9 N9 g6 g5
  obtain ⟨⟨hg1, hg2, hg3⟩, ⟨H0, H1⟩, ⟨L1, L2, L3⟩, hok, z1, z2, z3⟩ := PL.fin s0 s1 s2 a b c d base one two tm col col2 hbase hone htwo htm hin hmin hc2 a0 a1 b0 b1 c0 c1 d0 d1 _ _ _ rfl rfl rfl
  generalize frontOf d a (lrAcc base 3) ++ Txt.mul (lrAcc one 3) b = G1 at *
  generalize frontOf d a (lrAcc base 3) ++ Txt.mul (lrAcc two 3) b = G2 at *
  generalize frontOf d a (lrAcc base 3) ++ Txt.mul (lrAcc base 3) (b + c) = G3 at *
  refine law_seg10 w mean mg mb L fa cd h₀ X T B _ Q E o5 o6 DG a b c d col2 u1 u2 u3 u4 tcol2 v1 v2 v3 G1 G2 G3 m9 F9 (ka9.trans ka) (kb9.trans kb) (kc9.trans kc) (kd9.trans kd) (kk9.trans (kk8.trans kc7)) N9 g6 g5 ho5 ho6 ?_
  intro p5 p6 th tmm h10 tk10 hp5 hp6 F10 N10
  refine law_seg11 w mean mg mb L fa cd h₀ X T B _ Q E p5 p6 DG _ _ th tmm v1 v2 v3 G1 G2 G3 m9 F10 kt9 N10 hp5 hp6 H0 H1 (most_low a0 b0 c0 d0) (most_up a1 b1 c1 d1) hg1 hg2 hg3 ?_
  intro DO nO x1 x2 x3 h11 tk11 F11 N11
  exact law_seg12 w mean mg mb L fa cd h₀ X T B _ Q E DG DO P nO v1 v2 v3 x1 x2 x3 G1 G2 G3 _ _ _ _ F11 kt9 rfl N11 hg BS hok L1 L2 L3 z1 z2 z3 hnext
end Mine
end
section
open PySem PySem.W PyProof.Rows
set_option Elab.async false
set_option maxRecDepth 100000
set_option maxHeartbeats 4000000
namespace Mine
theorem base60 (w : World) (mean : ExcName → Option Value) (mg mb : Str → Option Value) : ∀ (h : Heap) (X : (hd.heap_39 w.params).In h) (T : Top hd.view_39 (looseW hd.view_39 [Str.ofString "_MIN_DIFF_LEN", Str.ofString "safe_repr", Str.ofString "COMPILER_FLAG_NAMES", Str.ofString "_filemode_table"]) mean mg mb h) (_ : Challenge.rw_om0040_01.row.prog = Challenge.rw_om0040_01.row.prog), ∃ P, Based h h 60 P #[] := by
  k_fill
  w_on
  intro h X T _
  have hm : mg (Str.ofString "_common_shorten_repr") = some (.ref 61) := mg_of X T.g (by k_is)
  have ho := X 61 _ (by k_is)
  obtain ⟨c, P, hc, hb⟩ := based_of_top T (name := Str.ofString "_common_shorten_repr") (by rfl) hm ho rfl
  cases hc
  exact ⟨P, hb⟩
theorem lawT (PL : PureLaw) : PySem.Challenge.rw_om0040_01.Holds := by
  refine hd ?_
  w_on
  lgec_go0
  rename Top _ _ _ _ _ _ => T9
  rename Frag.In _ _ => KX
  rename Below _ _ _ _ => K0
  rename Fr _ _ _ _ => F
  rename News _ _ _ _ => N0
  rename IntsAre _ _ => hI
  obtain ⟨P, BS⟩ := base60 _ _ _ _ _ KX T9 rfl
  refine law_chain PL _ _ _ _ _ _ _ _ KX T9 K0 _ P _ _ _ _ _ _ _ _ _ _ _ (by assumption) hI (by omega) (by assumption) F N0 (by assumption) (by assumption) (by assumption) (by assumption) (by assumption) (by assumption) ?_ BS ?_
  · (rename Shared.gens _ = #[] => hgg)
    refine AllBare.of_eq ?_
    exact hgg
  · intro hX ps m' s' BX FX hb hos
    refine goodWG_reads (d := WData.bool true) (as := []) BX FX hb ?_ ?_ ?_ ?_ hos
    · intro _; rfl
    · constructor
    · intro _; exact ⟨.nil, nofun⟩
    · wrow_post
end Mine
end
section
open PySem PySem.W PyProof.Rows
set_option Elab.async false
set_option maxRecDepth 100000
set_option maxHeartbeats 2000000
namespace Mine
theorem and_shl : ∀ (k : Nat) (x y : Int), Builtin.bitAnd x (2 ^ k * y) = 2 ^ k * Builtin.bitAnd (x / 2 ^ k) y
  | 0, x, y => by simp
  | k + 1, x, y => by
    have e1 : (2 ^ (k + 1) * y : Int) / 2 = 2 ^ k * y := by
      rw [Int.pow_succ, Int.mul_comm (2 ^ k) 2, Int.mul_assoc]
      exact Int.mul_ediv_cancel_left _ (by decide)
    have e2 : (2 ^ (k + 1) * y : Int) % 2 = 0 := by
      rw [Int.pow_succ, Int.mul_comm (2 ^ k) 2, Int.mul_assoc]
      exact Int.mul_emod_right _ _
    rw [kbt_halves, e1, e2, if_neg (by omega), and_shl k]
    have e3 : x / 2 / 2 ^ k = x / 2 ^ (k + 1) := by
      rw [Int.ediv_ediv_of_nonneg (by decide), Int.pow_succ, Int.mul_comm]
    rw [e3, Int.pow_succ, Int.mul_comm (2 ^ k) 2, Int.mul_assoc, Int.add_zero]
theorem and_odd (x y : Int) : Builtin.bitAnd x (2 * y + 1) = 2 * Builtin.bitAnd (x / 2) y + x % 2 := by
  have e1 : (2 * y + 1) / 2 = y := by omega
  have e2 : (2 * y + 1) % 2 = 1 := by omega
  rw [kbt_halves, e1, e2]
  split <;> omega
theorem fdivN (x : Int) {n : Int} (h : 0 ≤ n) : x.fdiv n = x / n := Int.fdiv_eq_ediv_of_nonneg _ h
theorem fmodN (x : Int) {n : Int} (h : 0 ≤ n) : x.fmod n = x % n := Int.fmod_eq_emod_of_nonneg _ h
theorem pl_mask (x : Int) : Builtin.bitAnd x 4095 = x.fmod 4096 := kbt_maskF x 12
theorem and_kind (x : Int) : Builtin.bitAnd x 61440 = 4096 * (x / 4096 % 16) := by
  have h1 : Builtin.bitAnd x (2 ^ 12 * 15) = 2 ^ 12 * Builtin.bitAnd (x / 2 ^ 12) 15 := and_shl 12 x 15
  have h2 : Builtin.bitAnd (x / 2 ^ 12) 15 = (x / 2 ^ 12) % 2 ^ 4 := kbt_mask _ 4
  rw [h2] at h1
  exact h1
theorem pl_kind (x : Int) : (Builtin.bitAnd x 61440).fdiv 4096 = (x.fdiv 4096).fmod 16 := by
  rw [and_kind, fdivN _ (by decide), fdivN _ (by decide), fmodN _ (by decide)]
  omega
theorem dd (x : Int) {a b c : Int} (h : 0 ≤ a) (e : a * b = c) : x / a / b = x / c := by rw [Int.ediv_ediv_of_nonneg h, e]
theorem lin_and (n m u v : Int) : n * (2 * (u * m) + v) = n * (2 * m * u + v) := by
  rw [Int.mul_assoc 2 m u, Int.mul_comm m u]
theorem and_2112 (x : Int) : Builtin.bitAnd x 2112 = 64 * (32 * (x / 2048 % 2) + x / 64 % 2) := by
  have h4 : Builtin.bitAnd x 2112 = 64 * Builtin.bitAnd (x / 64) 33 := and_shl 6 x 33
  have h5 : Builtin.bitAnd (x / 64) 33 = 2 * Builtin.bitAnd (x / 64 / 2) 16 + x / 64 % 2 := and_odd _ 16
  have h6 : Builtin.bitAnd (x / 64 / 2) 16 = (x / 64 / 2 / 16 % 2) * 16 := kbt_bit _ 4
  rw [h4, h5, h6, dd x (c := 128) (by decide) (by decide), dd x (c := 2048) (by decide) (by decide)]
  exact lin_and 64 16 _ _
theorem and_1032 (x : Int) : Builtin.bitAnd x 1032 = 8 * (128 * (x / 1024 % 2) + x / 8 % 2) := by
  have h4 : Builtin.bitAnd x 1032 = 8 * Builtin.bitAnd (x / 8) 129 := and_shl 3 x 129
  have h5 : Builtin.bitAnd (x / 8) 129 = 2 * Builtin.bitAnd (x / 8 / 2) 64 + x / 8 % 2 := and_odd _ 64
  have h6 : Builtin.bitAnd (x / 8 / 2) 64 = (x / 8 / 2 / 64 % 2) * 64 := kbt_bit _ 6
  rw [h4, h5, h6, dd x (c := 16) (by decide) (by decide), dd x (c := 1024) (by decide) (by decide)]
  exact lin_and 8 64 _ _
theorem and_513 (x : Int) : Builtin.bitAnd x 513 = 512 * (x / 512 % 2) + x % 2 := by
  have h5 : Builtin.bitAnd x 513 = 2 * Builtin.bitAnd (x / 2) 256 + x % 2 := and_odd _ 256
  have h6 : Builtin.bitAnd (x / 2) 256 = (x / 2 / 256 % 2) * 256 := kbt_bit _ 8
  rw [h5, h6, dd x (c := 512) (by decide) (by decide), Int.mul_comm _ 256, ← Int.mul_assoc]
  rfl
theorem bit_hit {u n : Int} (hn : n ≠ 0) : u * n = n ↔ u = 1 :=
  ⟨fun e => Int.eq_of_mul_eq_mul_right hn (by rw [e, Int.one_mul]), fun e => by rw [e, Int.one_mul]⟩
theorem b4 (y : Int) : 4 ≤ y % 8 ↔ y / 4 % 2 = 1 := by omega
theorem b2 (y : Int) : 2 ≤ y % 8 % 4 ↔ y / 2 % 2 = 1 := by omega
theorem b1 (y : Int) : y % 8 % 2 = y % 2 := Int.emod_emod_of_dvd y ⟨4, rfl⟩
theorem z2 (y : Int) : y % 2 = 0 ∨ y % 2 = 1 := by omega
theorem hit_2112 {u v : Int} (hu : u = 0 ∨ u = 1) (hv : v = 0 ∨ v = 1) : 64 * (32 * u + v) = 2112 ↔ u = 1 ∧ v = 1 := by
  rcases hu with rfl | rfl <;> rcases hv with rfl | rfl <;> decide
theorem hit_1032 {u v : Int} (hu : u = 0 ∨ u = 1) (hv : v = 0 ∨ v = 1) : 8 * (128 * u + v) = 1032 ↔ u = 1 ∧ v = 1 := by
  rcases hu with rfl | rfl <;> rcases hv with rfl | rfl <;> decide
theorem hit_513 {u v : Int} (hu : u = 0 ∨ u = 1) (hv : v = 0 ∨ v = 1) : 512 * u + v = 513 ↔ u = 1 ∧ v = 1 := by
  rcases hu with rfl | rfl <;> rcases hv with rfl | rfl <;> decide
theorem pl_len (x : Int) : (lrAcc x 3).length = 10 := by
  rw [lrAcc_succ (i := 2) rfl, lrAcc_succ (i := 1) rfl, lrAcc_succ (i := 0) rfl]
  unfold lrSeg lrAcc
  simp only [Str.length_append, len_item]
  have e1 : ∀ (c : Prop) [Decidable c], (if c then Str.ofString "r" else Str.ofString "-").length = 1 := fun c _ => by split <;> decide
  have e2 : ∀ (c : Prop) [Decidable c], (if c then Str.ofString "w" else Str.ofString "-").length = 1 := fun c _ => by split <;> decide
  have e3 : ∀ (c : Prop) [Decidable c] (p q : Str) (i j : Int), (if c then Txt.item p i else Txt.item q j).length = 1 := fun c _ p q i j => by split <;> rfl
  simp only [e1, e2, e3]
end Mine
end
section
open PySem PySem.W PyProof.Rows
set_option Elab.async false
set_option maxRecDepth 100000
set_option maxHeartbeats 2000000
namespace Mine
theorem pick1 {idx x b : Int} {c : Str} (h : idx ≠ 0) : fmPick idx x [(b, c)] = if Builtin.bitAnd x b = b then c else Str.ofString "-" := by
  unfold fmPick fmPick fmHit
  simp only [if_neg h, decide_eq_true_eq]
theorem pick3 {idx x b1 b2 b3 : Int} {c1 c2 c3 : Str} (h : idx ≠ 0) : fmPick idx x [(b1, c1), (b2, c2), (b3, c3)] = if Builtin.bitAnd x b1 = b1 then c1 else if Builtin.bitAnd x b2 = b2 then c2 else if Builtin.bitAnd x b3 = b3 then c3 else Str.ofString "-" := by
  unfold fmPick fmPick fmPick fmPick fmHit
  simp only [if_neg h, decide_eq_true_eq]
theorem if_iff {α : Type} {p q : Prop} [Decidable p] [Decidable q] (h : p ↔ q) {a b : α} : (if p then a else b) = if q then a else b := by
  by_cases hp : p
  · rw [if_pos hp, if_pos (h.mp hp)]
  · rw [if_neg hp, if_neg fun hq => hp (h.mpr hq)]
theorem xsign (en : Str) (c0 c1 : Str) (h0 : Txt.item en 0 = c0) (h1 : Txt.item en 1 = c1) (sb xb : Int) (hs : sb = 0 ∨ sb = 1) (hx : xb = 0 ∨ xb = 1) :
    (if (sb == 1) = true then Txt.item en xb else Txt.item (Str.ofString "-x") xb) = if sb = 1 ∧ xb = 1 then c1 else if sb = 1 then c0 else if xb = 1 then Str.ofString "x" else Str.ofString "-" := by
  rcases hs with rfl | rfl <;> rcases hx with rfl | rfl
  · rw [if_neg (by decide), if_neg (by decide), if_neg (by decide), if_neg (by decide)]; decide +kernel
  · rw [if_neg (by decide), if_neg (by decide), if_neg (by decide), if_pos rfl]; decide +kernel
  · rw [if_pos (by decide), if_neg (by decide), if_pos rfl]; exact h0
  · rw [if_pos (by decide), if_pos (by decide)]; exact h1
theorem kindEq (x : Int) : fmPick 0 x (fmTab.getD 0 []) = lrAcc x 0 := by
  have hk : (x.fdiv 4096).fmod 16 = x / 4096 % 16 := by rw [fdivN _ (by decide), fmodN _ (by decide)]
  show _ = Txt.item (Str.ofString "?pc?d?b?-?l?s???") ((x.fdiv 4096).fmod 16)
  rw [hk]
  have h : ∀ k : Nat, k < 16 → (let y : Int := 4096 * (k : Int); if y = 40960 then Str.ofString "l" else if y = 49152 then Str.ofString "s" else if y = 32768 then Str.ofString "-" else if y = 24576 then Str.ofString "b" else if y = 16384 then Str.ofString "d" else if y = 8192 then Str.ofString "c" else if y = 4096 then Str.ofString "p" else Str.ofString "?") = Txt.item (Str.ofString "?pc?d?b?-?l?s???") (k : Int) := by decide +kernel
  have h16 := h (x / 4096 % 16).toNat (by omega)
  rw [Int.toNat_of_nonneg (by omega)] at h16
  rw [← h16]
  show fmPick 0 x [(40960, Str.ofString "l"), (49152, Str.ofString "s"), (32768, Str.ofString "-"), (24576, Str.ofString "b"), (16384, Str.ofString "d"), (8192, Str.ofString "c"), (4096, Str.ofString "p")] = _
  unfold fmPick fmPick fmPick fmPick fmPick fmPick fmPick fmPick fmHit
  simp only [if_true, decide_eq_true_eq, and_kind]
theorem segEq {x f ab : Int} {en : Str} {r r1 r2 r3 : Str} (c1 : r1 = if decide (4 ≤ (x.fdiv f).fmod 8) = true then Str.ofString "r" else Str.ofString "-") (c2 : r2 = if decide (2 ≤ ((x.fdiv f).fmod 8).fmod 4) = true then Str.ofString "w" else Str.ofString "-")
    (c3 : r3 = if ((x.fdiv ab).fmod 2 == 1) = true then Txt.item en (((x.fdiv f).fmod 8).fmod 2) else Txt.item (Str.ofString "-x") (((x.fdiv f).fmod 8).fmod 2)) : lrSeg x f ab en r = r ++ (r1 ++ r2) ++ r3 := by
  rw [c1, c2, c3]; rfl
theorem fdm (x : Int) (f : Int) (hf : 0 ≤ f) : (x.fdiv f).fmod 8 = x / f % 8 := by rw [fdivN _ hf, fmodN _ (by decide)]
theorem s1 (x : Int) : fmPick 1 x [(256, Str.ofString "r")] = if decide (4 ≤ (x.fdiv 64).fmod 8) = true then Str.ofString "r" else Str.ofString "-" := by
  rw [pick1 (by decide), fdm _ _ (by decide), show Builtin.bitAnd x 256 = (x / 256 % 2) * 256 from kbt_bit x 8]
  exact if_iff (by rw [decide_eq_true_eq, bit_hit (by decide), b4, dd x (c := 256) (by decide) (by decide)])
theorem s2 (x : Int) : fmPick 2 x [(128, Str.ofString "w")] = if decide (2 ≤ ((x.fdiv 64).fmod 8).fmod 4) = true then Str.ofString "w" else Str.ofString "-" := by
  rw [pick1 (by decide), fdm _ _ (by decide), fmodN _ (by decide), show Builtin.bitAnd x 128 = (x / 128 % 2) * 128 from kbt_bit x 7]
  exact if_iff (by rw [decide_eq_true_eq, bit_hit (by decide), b2, dd x (c := 128) (by decide) (by decide)])
theorem s4 (x : Int) : fmPick 4 x [(32, Str.ofString "r")] = if decide (4 ≤ (x.fdiv 8).fmod 8) = true then Str.ofString "r" else Str.ofString "-" := by
  rw [pick1 (by decide), fdm _ _ (by decide), show Builtin.bitAnd x 32 = (x / 32 % 2) * 32 from kbt_bit x 5]
  exact if_iff (by rw [decide_eq_true_eq, bit_hit (by decide), b4, dd x (c := 32) (by decide) (by decide)])
theorem s5 (x : Int) : fmPick 5 x [(16, Str.ofString "w")] = if decide (2 ≤ ((x.fdiv 8).fmod 8).fmod 4) = true then Str.ofString "w" else Str.ofString "-" := by
  rw [pick1 (by decide), fdm _ _ (by decide), fmodN _ (by decide), show Builtin.bitAnd x 16 = (x / 16 % 2) * 16 from kbt_bit x 4]
  exact if_iff (by rw [decide_eq_true_eq, bit_hit (by decide), b2, dd x (c := 16) (by decide) (by decide)])
theorem s7 (x : Int) : fmPick 7 x [(4, Str.ofString "r")] = if decide (4 ≤ (x.fdiv 1).fmod 8) = true then Str.ofString "r" else Str.ofString "-" := by
  rw [pick1 (by decide), fdm _ _ (by decide), show Builtin.bitAnd x 4 = (x / 4 % 2) * 4 from kbt_bit x 2]
  exact if_iff (by rw [decide_eq_true_eq, bit_hit (by decide), b4, dd x (c := 4) (by decide) (by decide)])
theorem s8 (x : Int) : fmPick 8 x [(2, Str.ofString "w")] = if decide (2 ≤ ((x.fdiv 1).fmod 8).fmod 4) = true then Str.ofString "w" else Str.ofString "-" := by
  rw [pick1 (by decide), fdm _ _ (by decide), fmodN _ (by decide), show Builtin.bitAnd x 2 = (x / 2 % 2) * 2 from kbt_bit x 1]
  exact if_iff (by rw [decide_eq_true_eq, bit_hit (by decide), b2, dd x (c := 2) (by decide) (by decide)])
theorem s3 (x : Int) : fmPick 3 x [(2112, Str.ofString "s"), (2048, Str.ofString "S"), (64, Str.ofString "x")] = if ((x.fdiv 2048).fmod 2 == 1) = true then Txt.item (Str.ofString "Ss") (((x.fdiv 64).fmod 8).fmod 2) else Txt.item (Str.ofString "-x") (((x.fdiv 64).fmod 8).fmod 2) := by
  rw [pick3 (by decide), fdm _ _ (by decide), fmodN _ (by decide), fdivN _ (by decide), fmodN _ (by decide), and_2112, show Builtin.bitAnd x 2048 = (x / 2048 % 2) * 2048 from kbt_bit x 11, show Builtin.bitAnd x 64 = (x / 64 % 2) * 64 from kbt_bit x 6,
    xsign _ (Str.ofString "S") (Str.ofString "s") (by decide +kernel) (by decide +kernel) _ _ (z2 _) (z2 _), b1]
  rw [if_iff (hit_2112 (z2 _) (z2 _)), if_iff (bit_hit (u := x / 2048 % 2) (n := 2048) (by decide)), if_iff (bit_hit (u := x / 64 % 2) (n := 64) (by decide))]
theorem s6 (x : Int) : fmPick 6 x [(1032, Str.ofString "s"), (1024, Str.ofString "S"), (8, Str.ofString "x")] = if ((x.fdiv 1024).fmod 2 == 1) = true then Txt.item (Str.ofString "Ss") (((x.fdiv 8).fmod 8).fmod 2) else Txt.item (Str.ofString "-x") (((x.fdiv 8).fmod 8).fmod 2) := by
  rw [pick3 (by decide), fdm _ _ (by decide), fmodN _ (by decide), fdivN _ (by decide), fmodN _ (by decide), and_1032, show Builtin.bitAnd x 1024 = (x / 1024 % 2) * 1024 from kbt_bit x 10, show Builtin.bitAnd x 8 = (x / 8 % 2) * 8 from kbt_bit x 3,
    xsign _ (Str.ofString "S") (Str.ofString "s") (by decide +kernel) (by decide +kernel) _ _ (z2 _) (z2 _), b1]
  rw [if_iff (hit_1032 (z2 _) (z2 _)), if_iff (bit_hit (u := x / 1024 % 2) (n := 1024) (by decide)), if_iff (bit_hit (u := x / 8 % 2) (n := 8) (by decide))]
theorem s9 (x : Int) : fmPick 9 x [(513, Str.ofString "t"), (512, Str.ofString "T"), (1, Str.ofString "x")] = if ((x.fdiv 512).fmod 2 == 1) = true then Txt.item (Str.ofString "Tt") (((x.fdiv 1).fmod 8).fmod 2) else Txt.item (Str.ofString "-x") (((x.fdiv 1).fmod 8).fmod 2) := by
  rw [pick3 (by decide), fdm _ _ (by decide), fmodN _ (by decide), fdivN _ (by decide), fmodN _ (by decide), and_513, show Builtin.bitAnd x 512 = (x / 512 % 2) * 512 from kbt_bit x 9, show Builtin.bitAnd x 1 = (x / 1 % 2) * 1 from kbt_bit x 0,
    xsign _ (Str.ofString "T") (Str.ofString "t") (by decide +kernel) (by decide +kernel) _ _ (z2 _) (z2 _), b1]
  rw [Int.ediv_one, if_iff (hit_513 (z2 _) (z2 _)), if_iff (bit_hit (u := x / 512 % 2) (n := 512) (by decide)), if_iff (bit_hit (u := x % 2) (n := 1) (by decide))]
theorem join10 (p0 p1 p2 p3 p4 p5 p6 p7 p8 p9 : Str) : Txt.join (Str.ofString "") [p0, p1, p2, p3, p4, p5, p6, p7, p8, p9] = (((p0 ++ (p1 ++ p2)) ++ p3) ++ (p4 ++ p5) ++ p6) ++ (p7 ++ p8) ++ p9 := by
  have e : ∀ a b : Str, a ++ Str.ofString "" ++ b = a ++ b := fun a b => by
    cases a; cases b
    show Str.mk (_ ++ (Str.ofString "").cps ++ _) = Str.mk (_ ++ _)
    rw [show (Str.ofString "").cps = #[] by decide +kernel, Array.append_empty]
  have as : ∀ a b c : Str, a ++ b ++ c = a ++ (b ++ c) := fun a b c => by
    cases a; cases b; cases c
    show Str.mk ((_ ++ _) ++ _) = Str.mk (_ ++ (_ ++ _))
    rw [Array.append_assoc]
  unfold Txt.join
  rw [StrLaws.glued_eq_join]
  simp only [Str.join, e, as]
theorem pl_row (x : Int) : fmS x = lrAcc x 3 := by
  rw [lrAcc_succ (i := 2) rfl, lrAcc_succ (i := 1) rfl, lrAcc_succ (i := 0) rfl, segEq (s7 x) (s8 x) (s9 x), segEq (s4 x) (s5 x) (s6 x), segEq (s1 x) (s2 x) (s3 x), ← kindEq]
  exact join10 ..
end Mine
end
section
open PySem PySem.W PyProof.Rows
set_option Elab.async false
set_option maxRecDepth 100000
set_option maxHeartbeats 2000000
namespace Mine
open PySem.StrLaws PySem.Builtin PySem.Builtin.Str
abbrev sepS : Str := Str.ofString ", "
theorem sep_len : sepS.length = 2 := by decide +kernel
theorem sep_list : sepS.cps.toList = [44, 32] := by decide +kernel
theorem at_two {x : Str} {hi k : Nat} : At x sepS hi k ↔ k + 2 ≤ hi ∧ (x.cps.toList.drop k).take 2 = [44, 32] := by
  unfold At
  rw [subAt_eq, sep_len, sep_list, beq_iff_eq]
theorem not_at {x : Str} {P w R : List Nat} {hi k : Nat} (hx : x.cps.toList = P ++ (w ++ R)) (hw : 44 ∉ w) (h1 : P.length ≤ k) (h2 : k < P.length + w.length) : ¬ At x sepS hi k := by
  intro h
  obtain ⟨_, h⟩ := at_two.mp h
  have e : x.cps.toList[k]? = some 44 := by
    have := congrArg (fun l => l[0]?) h
    simpa [List.getElem?_take, List.getElem?_drop] using this
  rw [hx, List.getElem?_append_right h1, List.getElem?_append_left (by omega)] at e
  exact hw (List.mem_of_getElem? e)
theorem at_sep {x : Str} {P w R : List Nat} (hx : x.cps.toList = P ++ (w ++ (44 :: 32 :: R))) : At x sepS x.length (P.length + w.length) := by
  refine at_two.mpr ⟨?_, ?_⟩
  · have : x.length = x.cps.toList.length := by simp [Str.length]
    rw [this, hx]
    simp
    omega
  · rw [hx, ← List.append_assoc, List.drop_append_of_le_length (by simp), List.drop_of_length_le (by simp)]
    rfl
theorem str_of_list {x y : Str} (h : x.cps.toList = y.cps.toList) : x = y := by
  cases x; cases y
  exact congrArg Str.mk (Array.toList_inj.mp h)
theorem join_two (w v : Str) (r : List Str) : (Str.join sepS (w :: v :: r)).cps.toList = w.cps.toList ++ (44 :: 32 :: (Str.join sepS (v :: r)).cps.toList) := by
  show (w ++ sepS ++ Str.join sepS (v :: r)).cps.toList = _
  have e : ∀ a b : Str, (a ++ b).cps.toList = a.cps.toList ++ b.cps.toList := fun a b => by
    show (a.cps ++ b.cps).toList = _
    rw [Array.toList_append]
  rw [e, e, sep_list, List.append_assoc]
  rfl
theorem parts_join (x : Str) : ∀ (ws : List Str) (P : List Nat) (cuts : List Nat) (f : Nat), ws ≠ [] → (∀ w ∈ ws, 44 ∉ w.cps.toList) → x.cps.toList = P ++ (Str.join sepS ws).cps.toList → ChainG x sepS x.length P.length cuts f → (∀ k, f ≤ k → ¬ At x sepS x.length k) → partsFrom x 2 P.length cuts = ws
  | [], _, _, _, hne, _, _, _, _ => absurd rfl hne
  | [w], P, cuts, f, _, hw, hx, hc, hn => by
    have hw1 := hw w (List.mem_singleton.mpr rfl)
    have hx1 : x.cps.toList = P ++ (w.cps.toList ++ []) := by rw [List.append_nil]; exact hx
    have hl : x.length = P.length + w.cps.toList.length := by
      have : x.length = x.cps.toList.length := by simp [Str.length]
      rw [this, hx1]; simp
    cases cuts with
    | nil =>
      show [strSub x P.length x.length] = [w]
      congr 1
      refine str_of_list ?_
      rw [strSub_toList, hx1, hl]
      simp
      exact List.take_of_length_le (by simp)
    | cons c r =>
      obtain ⟨h1, h2, _, _⟩ := hc
      have h3 := (at_two.mp h2).1
      exact absurd h2 (not_at hx1 hw1 h1 (by omega))
  | w :: v :: r, P, cuts, f, _, hw, hx, hc, hn => by
    have hw1 := hw w (List.mem_cons_self ..)
    rw [join_two] at hx
    have hat := at_sep hx
    cases cuts with
    | nil =>
      have e : f = P.length := hc
      exact absurd hat (hn _ (by omega))
    | cons c r' =>
      obtain ⟨h1, h2, h3, h4⟩ := hc
      have hc : c = P.length + w.cps.toList.length := by
        by_cases q : c < P.length + w.cps.toList.length
        · exact absurd h2 (not_at hx hw1 h1 q)
        · by_cases q2 : P.length + w.cps.toList.length < c
          · exact absurd hat (h3 _ (by omega) q2)
          · omega
      subst hc
      show strSub x P.length _ :: partsFrom x 2 _ r' = _
      rw [sep_len] at h4
      have hP : (P ++ w.cps.toList ++ [44, 32]).length = P.length + w.cps.toList.length + 2 := by simp; omega
      have ih := parts_join x (v :: r) (P ++ w.cps.toList ++ [44, 32]) r' f (List.cons_ne_nil _ _) (fun y hy => hw y (List.mem_cons_of_mem _ hy)) (by rw [hx]; simp) (by rw [hP]; exact h4) hn
      rw [hP] at ih
      rw [ih]
      congr 1
      refine str_of_list ?_
      rw [strSub_toList, hx]
      simp
theorem split_words (ws : List Str) (hne : ws ≠ []) (hw : ∀ w ∈ ws, 44 ∉ w.cps.toList) (hlen : 2 ≤ (Str.join sepS ws).length) (hk : ¬ strKind (Str.join sepS ws) < strKind sepS) : Txt.split (Txt.join sepS ws) sepS = ws := by
  unfold Txt.join
  rw [glued_eq_join]
  generalize hX : Str.join sepS ws = x at *
  obtain ⟨f, hc, hn⟩ := occ_tight x sepS (by decide +kernel)
  have key := parts_join x ws [] _ f hne hw (by rw [hX]; rfl) hc hn
  unfold Txt.split
  rw [sep_len] at *
  rw [if_neg (by simp; omega)]
  split
  · rename_i h
    rw [List.isEmpty_iff.mp h] at key
    have e : strSub x 0 x.length = x := str_of_list (by rw [strSub_toList]; simp [Str.length]; exact List.take_of_length_le (by simp))
    have k2 : [strSub x 0 x.length] = ws := key
    rw [e] at k2
    exact k2
  · rw [partsBetween_eq]
    exact key
end Mine
end
section
open PySem PySem.W PyProof.Rows
set_option Elab.async false
set_option maxRecDepth 100000
set_option maxHeartbeats 2000000
namespace Mine
theorem pfW_free : ∀ k, k < 12 → 44 ∉ (pfW k).cps.toList ∧ 2 ≤ (pfW k).length := by decide +kernel
theorem pfWords_free (x : Int) : ∀ y ∈ pfWords x, 44 ∉ y.cps.toList ∧ 2 ≤ y.length := by
  unfold pfWords
  split
  · intro y hy
    rw [List.mem_singleton.mp hy]
    decide +kernel
  · intro y hy
    obtain ⟨k, hk, rfl⟩ := List.mem_map.mp hy
    exact pfW_free k (List.mem_range.mp (List.mem_filter.mp hk).1)
theorem pfWords_ne {x : Int} (h0 : 0 ≤ x) (h1 : x < 4096) : pfWords x ≠ [] := by
  unfold pfWords
  split
  · exact List.cons_ne_nil _ _
  · rename_i h
    exact fun e => h (pfAcc_nil h0 h1 e)
theorem pl_split (x : Int) (h0 : 0 ≤ x) (h1 : x < 4096) : Txt.split (Txt.join (Str.ofString ", ") (pfWords x)) (Str.ofString ", ") = pfWords x := by
  refine split_words _ (pfWords_ne h0 h1) (fun w hw => (pfWords_free x w hw).1) ?_ ?_
  · cases e : pfWords x with
    | nil => exact absurd e (pfWords_ne h0 h1)
    | cons w r =>
      have h := (pfWords_free x w (by rw [e]; exact List.mem_cons_self ..)).2
      exact Nat.le_trans h (join_mem_le sepS (w :: r) w (List.mem_cons_self ..))
  · rw [show Builtin.Str.strKind sepS = 1 by decide +kernel]
    unfold Builtin.Str.strKind
    split
    · decide
    · split <;> decide
end Mine
end
section
open PySem PySem.W PyProof.Rows
set_option Elab.async false
set_option maxRecDepth 100000
set_option maxHeartbeats 2000000
namespace Mine
theorem div_half (x : Int) (k : Nat) : x / 2 ^ (k + 1) = x / 2 / 2 ^ k := by
  rw [Int.ediv_ediv_of_nonneg (by decide), Int.pow_succ, Int.mul_comm]
theorem half_of {z w r : Int} (h : z = 2 * w + r) (hr : r = 0 ∨ r = 1) : z / 2 = w ∧ z % 2 = r := by omega
theorem two_parts (x : Int) : ∃ a p : Int, x = 2 * a + p ∧ (p = 0 ∨ p = 1) := ⟨x / 2, x % 2, by omega, by omega⟩
theorem lin_or (a b p q A c : Int) : 2 * a + p + (2 * b + q) - (2 * A + c) = 2 * (a + b - A) + (p + q - c) := by omega
theorem lin_xor (a b p q A c : Int) : 2 * a + p + (2 * b + q) - 2 * (2 * A + c) = 2 * (a + b - 2 * A) + (p + q - 2 * c) := by omega
theorem xor_half (x y : Int) : Builtin.bitXor x y / 2 = Builtin.bitXor (x / 2) (y / 2) ∧ (Builtin.bitXor x y % 2 = 1 ↔ x % 2 ≠ y % 2) := by
  obtain ⟨a, p, hx, hp⟩ := two_parts x
  obtain ⟨b, q, hy, hq⟩ := two_parts y
  obtain ⟨x1, x2⟩ := half_of hx hp
  obtain ⟨y1, y2⟩ := half_of hy hq
  rw [bitXor_and, bitXor_and, kbt_halves, x1, x2, y1, y2, hx, hy, lin_xor]
  generalize a + b - 2 * Builtin.bitAnd a b = W
  rcases hp with rfl | rfl <;> rcases hq with rfl | rfl
  · obtain ⟨e1, e2⟩ := half_of (z := 2 * W + (0 + 0 - 2 * (if (0 : Int) = 1 ∧ (0 : Int) = 1 then 1 else 0))) rfl (.inl rfl)
    rw [e1, e2]; exact ⟨rfl, by decide⟩
  · obtain ⟨e1, e2⟩ := half_of (z := 2 * W + (0 + 1 - 2 * (if (0 : Int) = 1 ∧ (1 : Int) = 1 then 1 else 0))) rfl (.inr rfl)
    rw [e1, e2]; exact ⟨rfl, by decide⟩
  · obtain ⟨e1, e2⟩ := half_of (z := 2 * W + (1 + 0 - 2 * (if (1 : Int) = 1 ∧ (0 : Int) = 1 then 1 else 0))) rfl (.inr rfl)
    rw [e1, e2]; exact ⟨rfl, by decide⟩
  · obtain ⟨e1, e2⟩ := half_of (z := 2 * W + (1 + 1 - 2 * (if (1 : Int) = 1 ∧ (1 : Int) = 1 then 1 else 0))) rfl (.inl rfl)
    rw [e1, e2]; exact ⟨rfl, by decide⟩
theorem or_half (x y : Int) : Builtin.bitOr x y / 2 = Builtin.bitOr (x / 2) (y / 2) ∧ (Builtin.bitOr x y % 2 = 1 ↔ (x % 2 = 1 ∨ y % 2 = 1)) := by
  obtain ⟨a, p, hx, hp⟩ := two_parts x
  obtain ⟨b, q, hy, hq⟩ := two_parts y
  obtain ⟨x1, x2⟩ := half_of hx hp
  obtain ⟨y1, y2⟩ := half_of hy hq
  rw [bitOr_and, bitOr_and, kbt_halves, x1, x2, y1, y2, hx, hy, lin_or]
  generalize a + b - Builtin.bitAnd a b = W
  rcases hp with rfl | rfl <;> rcases hq with rfl | rfl
  · obtain ⟨e1, e2⟩ := half_of (z := 2 * W + (0 + 0 - (if (0 : Int) = 1 ∧ (0 : Int) = 1 then 1 else 0))) rfl (.inl rfl)
    rw [e1, e2]; exact ⟨rfl, by decide⟩
  · obtain ⟨e1, e2⟩ := half_of (z := 2 * W + (0 + 1 - (if (0 : Int) = 1 ∧ (1 : Int) = 1 then 1 else 0))) rfl (.inr rfl)
    rw [e1, e2]; exact ⟨rfl, by decide⟩
  · obtain ⟨e1, e2⟩ := half_of (z := 2 * W + (1 + 0 - (if (1 : Int) = 1 ∧ (0 : Int) = 1 then 1 else 0))) rfl (.inr rfl)
    rw [e1, e2]; exact ⟨rfl, by decide⟩
  · obtain ⟨e1, e2⟩ := half_of (z := 2 * W + (1 + 1 - (if (1 : Int) = 1 ∧ (1 : Int) = 1 then 1 else 0))) rfl (.inr rfl)
    rw [e1, e2]; exact ⟨rfl, by decide⟩
theorem xor_bit : ∀ (k : Nat) (x y : Int), (Builtin.bitXor x y / 2 ^ k % 2 = 1 ↔ x / 2 ^ k % 2 ≠ y / 2 ^ k % 2)
  | 0, x, y => by simpa using (xor_half x y).2
  | k + 1, x, y => by rw [div_half, div_half, div_half, (xor_half x y).1]; exact xor_bit k _ _
theorem or_bit : ∀ (k : Nat) (x y : Int), (Builtin.bitOr x y / 2 ^ k % 2 = 1 ↔ (x / 2 ^ k % 2 = 1 ∨ y / 2 ^ k % 2 = 1))
  | 0, x, y => by simpa using (or_half x y).2
  | k + 1, x, y => by rw [div_half, div_half, div_half, (or_half x y).1]; exact or_bit k _ _
theorem low_bit (x : Int) {k : Nat} (hk : k < 12) : (x % 4096) / 2 ^ k % 2 = x / 2 ^ k % 2 := by
  have e : (4096 : Int) = 2 ^ k * (2 * 2 ^ (11 - k)) := by
    rw [← Int.mul_assoc, ← Int.pow_succ, ← Int.pow_add, show k + 1 + (11 - k) = 12 by omega]
    rfl
  have e' : 4096 * (x / 4096) = 2 ^ k * (2 * (2 ^ (11 - k) * (x / 4096))) := by
    generalize x / 4096 = q
    rw [e, Int.mul_assoc, Int.mul_assoc]
  have hp : (2 : Int) ^ k ≠ 0 := Int.ne_of_gt (kbt_pos k)
  rw [Int.emod_def x 4096, e', Int.sub_eq_add_neg, ← Int.mul_neg, Int.add_mul_ediv_left _ _ hp, ← Int.mul_neg, Int.add_mul_emod_self_left]
theorem tm_bit {one two base tm : Int} (h : tm = (bitsOf one two base).fmod 4096) {k : Nat} (hk : k < 12) : (tm / 2 ^ k % 2 = 1 ↔ (one / 2 ^ k % 2 ≠ base / 2 ^ k % 2 ∨ two / 2 ^ k % 2 ≠ base / 2 ^ k % 2)) := by
  rw [h, fmodN _ (by decide), low_bit _ hk]
  unfold bitsOf
  rw [or_bit, xor_bit, xor_bit]
/-- the sign of the row that the bit k turns -/
def sgnOf (k : Nat) : Nat := [9, 8, 7, 6, 5, 4, 3, 2, 1, 9, 6, 3].getD k 0
theorem tabL_is : tabL = (List.range 12).map fun k => (pfW k, (sgnOf k : Int)) := by decide +kernel
theorem pfW_inj : ∀ i, i < 12 → ∀ j, j < 12 → pfW i = pfW j → i = j := by decide +kernel
theorem pfW_no0 : ∀ i, i < 12 → pfW i ≠ Str.ofString "0x0" := by decide +kernel
theorem mem_words {tm : Int} {k : Nat} (hk : k < 12) : pfW k ∈ pfWords tm ↔ tm / 2 ^ k % 2 = 1 := by
  unfold pfWords
  split
  · rename_i h
    subst h
    simp only [List.mem_singleton, Int.zero_ediv]
    exact ⟨fun h => absurd h (pfW_no0 k hk), fun h => by omega⟩
  · unfold pfAcc
    rw [List.mem_map]
    constructor
    · rintro ⟨j, hj, e⟩
      have hj := List.mem_filter.mp hj
      have := pfW_inj j (List.mem_range.mp hj.1) k hk e
      subst this
      exact of_decide_eq_true hj.2
    · intro h
      exact ⟨k, List.mem_filter.mpr ⟨List.mem_range.mpr hk, decide_eq_true h⟩, rfl⟩
theorem mem_sgnL {tm x : Int} : x ∈ sgnL tm ↔ ∃ k, k < 12 ∧ tm / 2 ^ k % 2 = 1 ∧ x = (sgnOf k : Int) := by
  unfold sgnL
  rw [tabL_is, List.mem_map]
  constructor
  · rintro ⟨p, hp, rfl⟩
    obtain ⟨h1, h2⟩ := List.mem_filter.mp hp
    obtain ⟨k, hk, rfl⟩ := List.mem_map.mp h1
    have hk := List.mem_range.mp hk
    exact ⟨k, hk, (mem_words hk).mp (of_decide_eq_true h2), rfl⟩
  · rintro ⟨k, hk, hb, rfl⟩
    exact ⟨(pfW k, (sgnOf k : Int)), List.mem_filter.mpr ⟨List.mem_map.mpr ⟨k, List.mem_range.mpr hk, rfl⟩, decide_eq_true ((mem_words hk).mpr hb)⟩, rfl⟩
end Mine
end
section
open PySem PySem.W PyProof.Rows
set_option Elab.async false
set_option maxRecDepth 100000
set_option maxHeartbeats 2000000
namespace Mine
theorem cps_app (a b : Str) : (a ++ b).cps.toList = a.cps.toList ++ b.cps.toList := by
  show (a.cps ++ b.cps).toList = _
  rw [Array.toList_append]
def kindC (x : Int) : Nat := (lrAcc x 0).cps.toList.headD 0
theorem kind_list (x : Int) : (lrAcc x 0).cps.toList = [kindC x] := by
  have h : (lrAcc x 0).cps.toList.length = 1 := by
    have : (lrAcc x 0).length = 1 := len_item _ _
    simpa [Str.length] using this
  unfold kindC
  match e : (lrAcc x 0).cps.toList, h with
  | [c], _ => rfl
theorem kind_eq {x y : Int} : kindC x = kindC y ↔ lrAcc x 0 = lrAcc y 0 := by
  constructor
  · intro h
    exact str_of_list (by rw [kind_list, kind_list, h])
  · intro h
    unfold kindC
    rw [h]
def xC (sb xb : Int) (c0 c1 : Nat) : Nat := if sb = 1 then (if xb = 1 then c1 else c0) else if xb = 1 then 120 else 45
def rC (b : Int) (c : Nat) : Nat := if b = 1 then c else 45
def rowL (x : Int) : List Nat := [kindC x, rC (x / 256 % 2) 114, rC (x / 128 % 2) 119, xC (x / 2048 % 2) (x / 64 % 2) 83 115, rC (x / 32 % 2) 114, rC (x / 16 % 2) 119, xC (x / 1024 % 2) (x / 8 % 2) 83 115, rC (x / 4 % 2) 114, rC (x / 2 % 2) 119, xC (x / 512 % 2) (x % 2) 84 116]
theorem ifl {p q : Prop} [Decidable p] [Decidable q] (h : p ↔ q) {a b : Str} {c d : Nat} (ha : a.cps.toList = [c]) (hb : b.cps.toList = [d]) : (if p then a else b).cps.toList = [if q then c else d] := by
  by_cases hp : p
  · rw [if_pos hp, if_pos (h.mp hp), ha]
  · rw [if_neg hp, if_neg fun hq => hp (h.mpr hq), hb]
theorem pr {idx x b : Int} {s : Str} {c : Nat} (h : idx ≠ 0) (k : Nat) (hb : b = 2 ^ k) (hs : s.cps.toList = [c]) : (fmPick idx x [(b, s)]).cps.toList = [rC (x / 2 ^ k % 2) c] := by
  rw [pick1 h, hb, kbt_bit]
  have hp : (0 : Int) < 2 ^ k := kbt_pos k
  refine ifl ?_ hs (by decide +kernel)
  generalize x / 2 ^ k % 2 = u at *
  constructor
  · intro e
    have : u * 2 ^ k = 1 * 2 ^ k := by rw [e, Int.one_mul]
    exact Int.eq_of_mul_eq_mul_right (by omega) this
  · rintro rfl; rw [Int.one_mul]
theorem ifx {p q r : Prop} {sb xb : Int} [Decidable p] [Decidable q] [Decidable r] {a b c d : Str} {c0 c1 : Nat} (hp : p ↔ (sb = 1 ∧ xb = 1)) (hq : q ↔ sb = 1) (hr : r ↔ xb = 1) (ha : a.cps.toList = [c1]) (hb : b.cps.toList = [c0]) (hc : c.cps.toList = [120]) (hd : d.cps.toList = [45]) :
    (if p then a else if q then b else if r then c else d).cps.toList = [xC sb xb c0 c1] := by
  unfold xC
  by_cases h1 : sb = 1 <;> by_cases h2 : xb = 1
  · rw [if_pos (hp.mpr ⟨h1, h2⟩), if_pos h1, if_pos h2, ha]
  · rw [if_neg (fun e => h2 (hp.mp e).2), if_pos (hq.mpr h1), if_pos h1, if_neg h2, hb]
  · rw [if_neg (fun e => h1 (hp.mp e).1), if_neg (fun e => h1 (hq.mp e)), if_pos (hr.mpr h2), if_neg h1, if_pos h2, hc]
  · rw [if_neg (fun e => h1 (hp.mp e).1), if_neg (fun e => h1 (hq.mp e)), if_neg (fun e => h2 (hr.mp e)), if_neg h1, if_neg h2, hd]
theorem px3 (x : Int) : (fmPick 3 x [(2112, Str.ofString "s"), (2048, Str.ofString "S"), (64, Str.ofString "x")]).cps.toList = [xC (x / 2048 % 2) (x / 64 % 2) 83 115] := by
  rw [pick3 (by decide), and_2112, show Builtin.bitAnd x 2048 = (x / 2048 % 2) * 2048 from kbt_bit x 11, show Builtin.bitAnd x 64 = (x / 64 % 2) * 64 from kbt_bit x 6]
  exact ifx (hit_2112 (z2 _) (z2 _)) (bit_hit (by decide)) (bit_hit (by decide)) (by decide +kernel) (by decide +kernel) (by decide +kernel) (by decide +kernel)
theorem px6 (x : Int) : (fmPick 6 x [(1032, Str.ofString "s"), (1024, Str.ofString "S"), (8, Str.ofString "x")]).cps.toList = [xC (x / 1024 % 2) (x / 8 % 2) 83 115] := by
  rw [pick3 (by decide), and_1032, show Builtin.bitAnd x 1024 = (x / 1024 % 2) * 1024 from kbt_bit x 10, show Builtin.bitAnd x 8 = (x / 8 % 2) * 8 from kbt_bit x 3]
  exact ifx (hit_1032 (z2 _) (z2 _)) (bit_hit (by decide)) (bit_hit (by decide)) (by decide +kernel) (by decide +kernel) (by decide +kernel) (by decide +kernel)
theorem px9 (x : Int) : (fmPick 9 x [(513, Str.ofString "t"), (512, Str.ofString "T"), (1, Str.ofString "x")]).cps.toList = [xC (x / 512 % 2) (x % 2) 84 116] := by
  rw [pick3 (by decide), and_513, show Builtin.bitAnd x 512 = (x / 512 % 2) * 512 from kbt_bit x 9, show Builtin.bitAnd x 1 = (x / 1 % 2) * 1 from kbt_bit x 0]
  rw [Int.ediv_one]
  exact ifx (hit_513 (z2 _) (z2 _)) (bit_hit (by decide)) (bit_hit (by decide)) (by decide +kernel) (by decide +kernel) (by decide +kernel) (by decide +kernel)
theorem rowL_is (x : Int) : (lrAcc x 3).cps.toList = rowL x := by
  rw [lrAcc_succ (i := 2) rfl, lrAcc_succ (i := 1) rfl, lrAcc_succ (i := 0) rfl, segEq (s7 x) (s8 x) (s9 x), segEq (s4 x) (s5 x) (s6 x), segEq (s1 x) (s2 x) (s3 x)]
  simp only [cps_app, kind_list, px3, px6, px9]
  rw [pr (by decide) 8 (by decide) (show _ = [114] by decide +kernel), pr (by decide) 7 (by decide) (show _ = [119] by decide +kernel), pr (by decide) 5 (by decide) (show _ = [114] by decide +kernel), pr (by decide) 4 (by decide) (show _ = [119] by decide +kernel), pr (by decide) 2 (by decide) (show _ = [114] by decide +kernel), pr (by decide) 1 (by decide) (show _ = [119] by decide +kernel)]
  rfl
def okSigns : List Nat := [45, 63, 112, 99, 100, 98, 108, 115, 114, 119, 120, 83, 84, 116, 97]
theorem kind_ok (x : Int) : kindC x ∈ okSigns := by
  unfold kindC lrAcc
  rw [fdivN _ (by decide), fmodN _ (by decide)]
  have h : ∀ k : Nat, k < 16 → (Txt.item (Str.ofString "?pc?d?b?-?l?s???") (k : Int)).cps.toList.headD 0 ∈ okSigns := by decide +kernel
  have := h (x / 4096 % 16).toNat (by omega)
  rwa [Int.toNat_of_nonneg (by omega)] at this
theorem rC_ok {b : Int} {c : Nat} (h : c ∈ okSigns) : rC b c ∈ okSigns := by
  unfold rC
  split
  · exact h
  · decide
theorem xC_ok {sb xb : Int} {c0 c1 : Nat} (h0 : c0 ∈ okSigns) (h1 : c1 ∈ okSigns) : xC sb xb c0 c1 ∈ okSigns := by
  unfold xC
  split <;> split
  · exact h1
  · exact h0
  · decide
  · decide
theorem rowL_ok (x : Int) : ∀ c ∈ rowL x, c ∈ okSigns := by
  intro c hc
  simp only [rowL, List.mem_cons, List.not_mem_nil, or_false] at hc
  rcases hc with rfl | rfl | rfl | rfl | rfl | rfl | rfl | rfl | rfl | rfl
  · exact kind_ok x
  all_goals first | exact rC_ok (by decide) | exact xC_ok (by decide) (by decide)
theorem rC_inj {b b' : Int} {c : Nat} (hb : b = 0 ∨ b = 1) (hb' : b' = 0 ∨ b' = 1) (hc : c ≠ 45) (h : rC b c = rC b' c) : b = b' := by
  rcases hb with rfl | rfl <;> rcases hb' with rfl | rfl
  · rfl
  · exact absurd h hc.symm
  · exact absurd h hc
  · rfl
theorem xC_inj {sb sb' xb xb' : Int} {c0 c1 : Nat} (h1 : sb = 0 ∨ sb = 1) (h2 : sb' = 0 ∨ sb' = 1) (h3 : xb = 0 ∨ xb = 1) (h4 : xb' = 0 ∨ xb' = 1) (hc : c0 ≠ 45 ∧ c1 ≠ 45 ∧ c0 ≠ 120 ∧ c1 ≠ 120 ∧ c0 ≠ c1) (h : xC sb xb c0 c1 = xC sb' xb' c0 c1) : sb = sb' ∧ xb = xb' := by
  obtain ⟨a1, a2, a3, a4, a5⟩ := hc
  have a0 : 45 ≠ 120 := by decide
  rcases h1 with rfl | rfl <;> rcases h2 with rfl | rfl <;> rcases h3 with rfl | rfl <;> rcases h4 with rfl | rfl
  · exact ⟨rfl, rfl⟩
  · exact absurd h a0
  · exact absurd h a0.symm
  · exact ⟨rfl, rfl⟩
  · exact absurd h a1.symm
  · exact absurd h a2.symm
  · exact absurd h a3.symm
  · exact absurd h a4.symm
  · exact absurd h a1
  · exact absurd h a3
  · exact absurd h a2
  · exact absurd h a4
  · exact ⟨rfl, rfl⟩
  · exact absurd h a5
  · exact absurd h a5.symm
  · exact ⟨rfl, rfl⟩
theorem row_ne {x y : Int} {k : Nat} (hk : k < 12) (h : x / 2 ^ k % 2 ≠ y / 2 ^ k % 2) : (rowL x)[sgnOf k]? ≠ (rowL y)[sgnOf k]? := by
  intro e
  have z : ∀ u : Int, u % 2 = 0 ∨ u % 2 = 1 := fun u => by omega
  match k, hk with
  | 0, _ => exact h (by have := (xC_inj (z _) (z _) (z _) (z _) (by decide) (Option.some.inj e)).2; simpa using this)
  | 1, _ => exact h (rC_inj (z _) (z _) (by decide) (Option.some.inj e))
  | 2, _ => exact h (rC_inj (z _) (z _) (by decide) (Option.some.inj e))
  | 3, _ => exact h (xC_inj (z _) (z _) (z _) (z _) (by decide) (Option.some.inj e)).2
  | 4, _ => exact h (rC_inj (z _) (z _) (by decide) (Option.some.inj e))
  | 5, _ => exact h (rC_inj (z _) (z _) (by decide) (Option.some.inj e))
  | 6, _ => exact h (xC_inj (z _) (z _) (z _) (z _) (by decide) (Option.some.inj e)).2
  | 7, _ => exact h (rC_inj (z _) (z _) (by decide) (Option.some.inj e))
  | 8, _ => exact h (rC_inj (z _) (z _) (by decide) (Option.some.inj e))
  | 9, _ => exact h (xC_inj (z _) (z _) (z _) (z _) (by decide) (Option.some.inj e)).1
  | 10, _ => exact h (xC_inj (z _) (z _) (z _) (z _) (by decide) (Option.some.inj e)).1
  | 11, _ => exact h (xC_inj (z _) (z _) (z _) (z _) (by decide) (Option.some.inj e)).1
theorem row_eq {x y : Int} {j : Nat} (h1 : 1 ≤ j) (h : ∀ k, k < 12 → sgnOf k = j → x / 2 ^ k % 2 = y / 2 ^ k % 2) : (rowL x)[j]? = (rowL y)[j]? := by
  have q : ∀ k, k < 12 → sgnOf k = j → ∀ n : Int, n = 2 ^ k → x / n % 2 = y / n % 2 := fun k hk e n hn => hn ▸ h k hk e
  match j, h1 with
  | 1, _ => show some (rC _ _) = some (rC _ _); rw [q 8 (by decide) rfl 256 (by decide)]
  | 2, _ => show some (rC _ _) = some (rC _ _); rw [q 7 (by decide) rfl 128 (by decide)]
  | 3, _ => show some (xC _ _ _ _) = some (xC _ _ _ _); rw [q 6 (by decide) rfl 64 (by decide), q 11 (by decide) rfl 2048 (by decide)]
  | 4, _ => show some (rC _ _) = some (rC _ _); rw [q 5 (by decide) rfl 32 (by decide)]
  | 5, _ => show some (rC _ _) = some (rC _ _); rw [q 4 (by decide) rfl 16 (by decide)]
  | 6, _ => show some (xC _ _ _ _) = some (xC _ _ _ _); rw [q 3 (by decide) rfl 8 (by decide), q 10 (by decide) rfl 1024 (by decide)]
  | 7, _ => show some (rC _ _) = some (rC _ _); rw [q 2 (by decide) rfl 4 (by decide)]
  | 8, _ => show some (rC _ _) = some (rC _ _); rw [q 1 (by decide) rfl 2 (by decide)]
  | 9, _ =>
    have e0 := q 0 (by decide) rfl 1 (by decide)
    simp only [Int.ediv_one] at e0
    show some (xC _ _ _ _) = some (xC _ _ _ _); rw [e0, q 9 (by decide) rfl 512 (by decide)]
  | j + 10, _ => rfl
theorem rows_part {one two base tm col col2 : Int} (htm : tm = (bitsOf one two base).fmod 4096) (hin : col ∈ 10 :: sgnL tm) (hmin : ∀ x ∈ 10 :: sgnL tm, col ≤ x) (hc : col2 = (if lrAcc two 0 = lrAcc one 0 ∧ lrAcc base 0 = lrAcc one 0 then col else 0)) :
    ∃ n : Nat, col2 = (n : Int) ∧ n ≤ 10 ∧ (∀ j, j < n → (rowL one)[j]? = (rowL base)[j]? ∧ (rowL two)[j]? = (rowL base)[j]?) ∧ (n < 10 → ¬ ((rowL one)[n]? = (rowL base)[n]? ∧ (rowL two)[n]? = (rowL base)[n]?)) := by
  split at hc
  · rename_i hk
    have h10 := hmin 10 (List.mem_cons_self ..)
    have hpos : 0 ≤ col := by
      rcases List.mem_cons.mp hin with h | h
      · omega
      · obtain ⟨k, _, _, e⟩ := mem_sgnL.mp h; omega
    refine ⟨col.toNat, by omega, by omega, ?_, ?_⟩
    · intro j hj
      cases j with
      | zero =>
        have e1 := kind_eq.mpr hk.1
        have e2 := kind_eq.mpr hk.2
        exact ⟨congrArg some e2.symm, congrArg some (e1.trans e2.symm)⟩
      | succ j =>
        have key : ∀ k, k < 12 → sgnOf k = j + 1 → ¬ tm / 2 ^ k % 2 = 1 := by
          intro k hk e hb
          have := hmin (sgnOf k : Int) (List.mem_cons_of_mem _ (mem_sgnL.mpr ⟨k, hk, hb, rfl⟩))
          omega
        constructor <;> refine row_eq (by omega) fun k hk e => ?_
        · have := key k hk e
          rw [tm_bit htm hk] at this
          exact Decidable.byContradiction fun q => this (.inl q)
        · have := key k hk e
          rw [tm_bit htm hk] at this
          exact Decidable.byContradiction fun q => this (.inr q)
    · rintro hlt ⟨g1, g2⟩
      rcases List.mem_cons.mp hin with h | h
      · omega
      · obtain ⟨k, hk, hb, e⟩ := mem_sgnL.mp h
        have e2 : col.toNat = sgnOf k := by omega
        rw [e2] at g1 g2
        rcases (tm_bit htm hk).mp hb with q | q
        · exact row_ne hk q g1
        · exact row_ne hk q g2
  · rename_i hk
    refine ⟨0, by omega, by omega, fun j hj => absurd hj (Nat.not_lt_zero _), ?_⟩
    rintro _ ⟨g1, g2⟩
    have g1 : kindC one = kindC base := Option.some.inj g1
    have g2 : kindC two = kindC base := Option.some.inj g2
    exact hk ⟨kind_eq.mp (g2.trans g1.symm), kind_eq.mp g1.symm⟩
end Mine
end
section
open PySem PySem.W PyProof.Rows
set_option Elab.async false
set_option maxRecDepth 100000
set_option maxHeartbeats 2000000
namespace Mine
theorem between : ∀ (n : Nat) (m X M : List Nat), ¬ X < m → ¬ M < X → (∀ j, j < n → m[j]? = M[j]?) → n ≤ m.length → ∀ j, j < n → X[j]? = m[j]?
  | 0, _, _, _, _, _, _, _ => fun j hj => absurd hj (Nat.not_lt_zero _)
  | n + 1, [], _, _, _, _, _, hl => absurd hl (by simp)
  | n + 1, x :: m, X, [], _, _, h, _ => by have := h 0 (by omega); simp at this
  | n + 1, x :: m, [], y :: M, h1, _, _, _ => absurd (List.nil_lt_cons ..) h1
  | n + 1, x :: m, z :: X, y :: M, h1, h2, h, hl => by
    have e : x = y := by simpa using h 0 (by omega)
    subst e
    rw [List.cons_lt_cons_iff] at h1 h2
    have ez : z = x := by
      rcases Nat.lt_trichotomy z x with q | q | q
      · exact absurd (.inl q) h1
      · exact q
      · exact absurd (.inl q) h2
    subst ez
    have ih := between n m X M (fun q => h1 (.inr ⟨rfl, q⟩)) (fun q => h2 (.inr ⟨rfl, q⟩)) (fun j hj => by simpa using h (j + 1) (by omega)) (by simpa using hl)
    intro j hj
    cases j with
    | zero => rfl
    | succ j => simpa using ih j (by omega)
theorem no_end : ∀ (m M : List Nat), ¬ M < m → ∀ i, i < m.length → (∀ j, j < i → m[j]? = M[j]?) → i < M.length
  | [], _, _, i, hi, _ => absurd hi (Nat.not_lt_zero _)
  | x :: m, [], h, _, _, _ => absurd (List.nil_lt_cons ..) h
  | x :: m, y :: M, _, 0, _, _ => Nat.succ_pos _
  | x :: m, y :: M, h, i + 1, hi, hj => by
    have e : x = y := by simpa using hj 0 (by omega)
    subst e
    rw [List.cons_lt_cons_iff] at h
    have := no_end m M (fun q => h (.inr ⟨rfl, q⟩)) i (by simpa using hi) (fun j hj' => by simpa using hj (j + 1) (by omega))
    simpa using this
theorem cpl_spec : ∀ (m M : List Nat), cpl m M ≤ m.length ∧ ∀ j, j < cpl m M → m[j]? = M[j]?
  | [], M => by unfold cpl; exact ⟨Nat.le_refl _, fun j hj => absurd hj (Nat.not_lt_zero _)⟩
  | x :: m, [] => by unfold cpl; exact ⟨Nat.zero_le _, fun j hj => absurd hj (Nat.not_lt_zero _)⟩
  | x :: m, y :: M => by
    unfold cpl
    split
    · rename_i e
      subst e
      obtain ⟨h1, h2⟩ := cpl_spec m M
      refine ⟨by simpa using h1, fun j hj => ?_⟩
      cases j with
      | zero => rfl
      | succ j => simpa using h2 j (by omega)
    · exact ⟨Nat.zero_le _, fun j hj => absurd hj (Nat.not_lt_zero _)⟩
theorem cpl_ge : ∀ (n : Nat) (m M : List Nat), n ≤ m.length → (∀ j, j < n → m[j]? = M[j]?) → n ≤ cpl m M
  | 0, _, _, _, _ => Nat.zero_le _
  | n + 1, [], _, hl, _ => absurd hl (by simp)
  | n + 1, x :: m, [], _, h => by have := h 0 (by omega); simp at this
  | n + 1, x :: m, y :: M, hl, h => by
    have e : x = y := by simpa using h 0 (by omega)
    unfold cpl
    rw [if_pos e]
    exact Nat.succ_le_succ (cpl_ge n m M (by simpa using hl) fun j hj => by simpa using h (j + 1) (by omega))
/-- three lists have their first H signs in common and no more -/
structure Sh (a b c : List Nat) (H : Nat) : Prop where
  la : H ≤ a.length
  lb : H ≤ b.length
  lc : H ≤ c.length
  same : ∀ j, j < H → a[j]? = c[j]? ∧ b[j]? = c[j]?
  part : ¬ (H < a.length ∧ H < b.length ∧ H < c.length ∧ a[H]? = c[H]? ∧ b[H]? = c[H]?)
theorem lt_irr (x : List Nat) : ¬ x < x := List.lt_irrefl x
theorem nlt_tr {x y z : List Nat} (h1 : ¬ y < x) (h2 : ¬ z < y) : ¬ z < x := List.le_trans (α := Nat) (l₁ := x) (l₂ := y) (l₃ := z) h1 h2
theorem nlt_of {x y : List Nat} (h : x < y) : ¬ y < x := List.lt_asymm h
theorem minS_is (a b c : Str) : (min3S a b c = a ∨ min3S a b c = b ∨ min3S a b c = c) ∧ ¬ a.cps.toList < (min3S a b c).cps.toList ∧ ¬ b.cps.toList < (min3S a b c).cps.toList ∧ ¬ c.cps.toList < (min3S a b c).cps.toList := by
  unfold min3S ltS
  simp only [decide_eq_true_eq]
  by_cases h1 : b.cps.toList < a.cps.toList
  · rw [if_pos h1]
    by_cases h2 : c.cps.toList < b.cps.toList
    · rw [if_pos h2]
      exact ⟨.inr (.inr rfl), nlt_tr (nlt_of h2) (nlt_of h1), nlt_of h2, lt_irr _⟩
    · rw [if_neg h2]
      exact ⟨.inr (.inl rfl), nlt_of h1, lt_irr _, h2⟩
  · rw [if_neg h1]
    by_cases h2 : c.cps.toList < a.cps.toList
    · rw [if_pos h2]
      exact ⟨.inr (.inr rfl), nlt_of h2, nlt_tr (nlt_of h2) h1, lt_irr _⟩
    · rw [if_neg h2]
      exact ⟨.inl rfl, lt_irr _, h1, h2⟩
theorem maxS_is (a b c : Str) : (max3S a b c = a ∨ max3S a b c = b ∨ max3S a b c = c) ∧ ¬ (max3S a b c).cps.toList < a.cps.toList ∧ ¬ (max3S a b c).cps.toList < b.cps.toList ∧ ¬ (max3S a b c).cps.toList < c.cps.toList := by
  unfold max3S ltS
  simp only [decide_eq_true_eq]
  by_cases h1 : a.cps.toList < b.cps.toList
  · rw [if_pos h1]
    by_cases h2 : b.cps.toList < c.cps.toList
    · rw [if_pos h2]
      exact ⟨.inr (.inr rfl), nlt_tr (nlt_of h1) (nlt_of h2), nlt_of h2, lt_irr _⟩
    · rw [if_neg h2]
      exact ⟨.inr (.inl rfl), nlt_of h1, lt_irr _, h2⟩
  · rw [if_neg h1]
    by_cases h2 : a.cps.toList < c.cps.toList
    · rw [if_pos h2]
      exact ⟨.inr (.inr rfl), nlt_of h2, nlt_tr h1 (nlt_of h2), lt_irr _⟩
    · rw [if_neg h2]
      exact ⟨.inl rfl, lt_irr _, h1, h2⟩
theorem min_le_max (a b c : Str) : ¬ (max3S a b c).cps.toList < (min3S a b c).cps.toList := nlt_tr (minS_is a b c).2.1 (maxS_is a b c).2.1
theorem sh_any {a b c : List Nat} {H : Nat} (S : Sh a b c H) {x : List Nat} (hx : x = a ∨ x = b ∨ x = c) : H ≤ x.length ∧ ∀ j, j < H → x[j]? = c[j]? := by
  rcases hx with rfl | rfl | rfl
  · exact ⟨S.la, fun j hj => (S.same j hj).1⟩
  · exact ⟨S.lb, fun j hj => (S.same j hj).2⟩
  · exact ⟨S.lc, fun _ _ => rfl⟩
theorem or3 {a b c x : Str} (h : x = a ∨ x = b ∨ x = c) : x.cps.toList = a.cps.toList ∨ x.cps.toList = b.cps.toList ∨ x.cps.toList = c.cps.toList := by
  rcases h with rfl | rfl | rfl
  · exact .inl rfl
  · exact .inr (.inl rfl)
  · exact .inr (.inr rfl)
theorem cpl_sh {a b c : Str} {H : Nat} (S : Sh a.cps.toList b.cps.toList c.cps.toList H) : cpl (min3S a b c).cps.toList (max3S a b c).cps.toList = H := by
  obtain ⟨m1, m2, m3, m4⟩ := minS_is a b c
  obtain ⟨M1, M2, M3, M4⟩ := maxS_is a b c
  obtain ⟨x1, x2⟩ := sh_any S (or3 m1)
  obtain ⟨y1, y2⟩ := sh_any S (or3 M1)
  generalize (min3S a b c).cps.toList = m at *
  generalize (max3S a b c).cps.toList = M at *
  have hge := cpl_ge H m M x1 fun j hj => (x2 j hj).trans (y2 j hj).symm
  by_cases hlt : H < cpl m M
  · exfalso
    obtain ⟨g1, g2⟩ := cpl_spec m M
    have q : ∀ j, j < H + 1 → m[j]? = M[j]? := fun j hj => g2 j (by omega)
    have ea := between (H + 1) m _ M m2 M2 q (by omega) H (by omega)
    have eb := between (H + 1) m _ M m3 M3 q (by omega) H (by omega)
    have ec := between (H + 1) m _ M m4 M4 q (by omega) H (by omega)
    have hm : m[H]? = some (m[H]'(by omega)) := List.getElem?_eq_getElem (by omega)
    have len : ∀ l : List Nat, l[H]? = m[H]? → H < l.length := fun l e => by
      rw [hm] at e
      exact (List.getElem?_eq_some_iff.mp e).1
    exact S.part ⟨len _ ea, len _ eb, len _ ec, ea.trans ec.symm, eb.trans ec.symm⟩
  · omega
theorem pfx_sh {a b c x : Str} {H : Nat} (S : Sh a.cps.toList b.cps.toList c.cps.toList H) (hx : x = a ∨ x = b ∨ x = c) : pfxS (min3S a b c) (max3S a b c) = ⟨(x.cps.toList.take H).toArray⟩ := by
  unfold pfxS
  rw [cpl_sh S]
  congr 2
  obtain ⟨x1, x2⟩ := sh_any S (or3 (minS_is a b c).1)
  obtain ⟨y1, y2⟩ := sh_any S (or3 hx)
  refine List.ext_getElem? fun j => ?_
  rw [List.getElem?_take, List.getElem?_take]
  split
  · rename_i hj
    exact (x2 j hj).trans (y2 j hj).symm
  · rfl
theorem hok_sh (a b c : Str) : ∀ i, i < (min3S a b c).length → (∀ j, j < i → (min3S a b c).cps[j]? = (max3S a b c).cps[j]?) → i < (max3S a b c).length := by
  intro i hi hj
  have := no_end _ _ (min_le_max a b c) i (by simpa [Str.length] using hi) (fun j h => by simpa using hj j h)
  simpa [Str.length] using this
end Mine
end
section
open PySem PySem.W PyProof.Rows
set_option Elab.async false
set_option maxRecDepth 100000
set_option maxHeartbeats 2000000
namespace Mine
theorem len_list (x : Str) : x.cps.toList.length = x.length := by simp [Str.length]
theorem sl_to {x : Str} {j : Int} {n : Nat} (e : j = n) (h : n ≤ x.length) : (Txt.slice x none (some j)).cps.toList = x.cps.toList.take n := by
  subst e
  rw [slice_to h]
theorem sl_from {x : Str} {i : Int} {n : Nat} (e : i = n) (h : n ≤ x.length) : (Txt.slice x (some i) none).cps.toList = x.cps.toList.drop n := by
  subst e
  rw [eq_of_beq (slice_closes_fromL (x := x) (i := (n : Int)) (b := (x.length : Int)) (by omega) (by omega) rfl)]
  show List.take _ _ = _
  rw [Int.toNat_natCast]
  exact List.take_of_length_le (by rw [List.length_drop, len_list]; omega)
theorem sl_mid {x : Str} {i j : Int} {n m : Nat} (e : i = n) (e' : j = m) (h : n ≤ m) (h' : m ≤ x.length) : (Txt.slice x (some i) (some j)).cps.toList = (x.cps.toList.drop n).take (m - n) := by
  subst e e'
  rw [eq_of_beq (slice_closesL (x := x) (i := (n : Int)) (j := (m : Int)) (by omega) (by omega) (by omega))]
  show List.take _ _ = _
  rw [Int.toNat_natCast, show ((m : Int) - (n : Int)).toNat = m - n by omega]
theorem sl_neg {x : Str} (h : 5 ≤ x.length) : (Txt.slice x (some (-5)) none).cps.toList = x.cps.toList.drop (x.length - 5) := by
  rw [eq_of_beq (slice_closes_from_neg (x := x) (i := -5) (a := -5 + (x.length : Int)) (b := (x.length : Int)) (by decide) (by omega) rfl rfl)]
  show List.take _ _ = _
  rw [show (-5 + (x.length : Int)).toNat = x.length - 5 by omega]
  exact List.take_of_length_le (by rw [List.length_drop, len_list]; omega)
theorem pfx_len {x : Str} {H : Nat} (h : H ≤ x.length) : (⟨(x.cps.toList.take H).toArray⟩ : Str).length = H := by
  show (x.cps.toList.take H).toArray.size = H
  rw [List.size_toArray, List.length_take, len_list]
  omega
theorem csr_told {r1 r2 r3 x : Str} {most : Int} {H : Nat} (hmax : max3N r1 r2 r3 = most) (hP : pfxS (min3S r1 r2 r3) (max3S r1 r2 r3) = ⟨(x.cps.toList.take H).toArray⟩) (hH : H ≤ x.length) : csrOf r1 r2 r3 x = toldOf x most (H : Int) := by
  have hPl := pfx_len hH
  have hPc : (⟨(x.cps.toList.take H).toArray⟩ : Str).cps.toList = x.cps.toList.take H := rfl
  unfold csrOf toldOf
  rw [hmax, hP, hPl]
  generalize (⟨(x.cps.toList.take H).toArray⟩ : Str) = P at *
  split
  · rfl
  rename_i h80
  by_cases h57 : most - (H : Int) ≤ 57
  · rw [if_pos (by omega), if_pos h57]
    unfold shortOf
    rw [hPl, if_pos (by omega)]
    have e1 : (H : Int) - 5 - (80 - (most - (H : Int) + 5 + 12)) = most - 68 := by omega
    rw [e1]
    refine str_of_list ?_
    simp only [cps_app]
    have q : ∃ k : Nat, most = (k : Int) := ⟨most.toNat, by omega⟩
    obtain ⟨k, rfl⟩ := q
    rw [sl_to (n := 5) (by rfl) (by omega), sl_to (n := 5) (by rfl) (by omega), sl_from (n := k - 63) (by omega) (by omega), sl_from (n := H) rfl hH, sl_from (n := k - 63) (by omega) (by omega), hPc, List.take_take, Nat.min_eq_left (by omega)]
    simp only [List.append_assoc]
    congr 4
    rw [List.drop_take]
    have t := List.take_append_drop (H - (k - 63)) (x.cps.toList.drop (k - 63))
    rw [List.drop_drop, show k - 63 + (H - (k - 63)) = H by omega] at t
    exact t
  · rw [if_neg (by omega), if_neg h57]
    have hr := sl_from (x := x) (n := H) rfl hH
    have hrl : (Txt.slice x (some (H : Int)) none).length = x.length - H := by
      rw [← len_list, hr, List.length_drop, len_list]
    generalize Txt.slice x (some (H : Int)) none = R at *
    have eP : shortOf P 5 5 = (if 22 < (H : Int) then Txt.slice x none (some 5) ++ Str.ofString "[" ++ Str.ofString (toString ((H : Int) - 10)) ++ Str.ofString " chars]" ++ Txt.slice x (some ((H : Int) - 5)) (some (H : Int)) else Txt.slice x none (some (H : Int))) := by
      unfold shortOf
      rw [hPl]
      by_cases h22 : 22 < (H : Int)
      · rw [if_pos (by omega), if_pos h22, show (H : Int) - 5 - 5 = (H : Int) - 10 by omega]
        refine str_of_list ?_
        simp only [cps_app]
        rw [sl_to (n := 5) (by rfl) (by omega), sl_to (n := 5) (by rfl) (by omega), sl_from (n := H - 5) (by omega) (by omega), sl_mid (n := H - 5) (m := H) (by omega) rfl (by omega) hH, hPc, List.take_take, Nat.min_eq_left (by omega), List.drop_take]
      · rw [if_neg (by omega), if_neg h22]
        refine str_of_list ?_
        rw [sl_to rfl hH, hPc]
    have eR : shortOf R 41 5 = (if 58 < (R.length : Int) then Txt.slice R none (some 41) ++ Str.ofString "[" ++ Str.ofString (toString ((R.length : Int) - 46)) ++ Str.ofString " chars]" ++ Txt.slice R (some (-5)) none else R) := by
      unfold shortOf
      by_cases h58 : 58 < (R.length : Int)
      · rw [if_pos (by omega), if_pos h58, show (R.length : Int) - 41 - 5 = (R.length : Int) - 46 by omega]
        refine str_of_list ?_
        simp only [cps_app]
        rw [sl_from (n := R.length - 5) (by omega) (by omega), sl_neg (by omega)]
      · rw [if_neg (by omega), if_neg h58]
    rw [eP, eR]
end Mine
end
section
open PySem PySem.W PyProof.Rows
set_option Elab.async false
set_option maxRecDepth 100000
set_option maxHeartbeats 2000000
namespace Mine
open PySem.Builtin PySem.Builtin.Str
def rep (n : Nat) (l : List Nat) : List Nat := (List.replicate n l).flatten
theorem rep_succ (n : Nat) (l : List Nat) : rep (n + 1) l = l ++ rep n l := by
  unfold rep
  rw [List.replicate_succ, List.flatten_cons]
theorem rep_len (n : Nat) (l : List Nat) : (rep n l).length = n * l.length := by
  induction n with
  | zero => simp [rep]
  | succ n ih => rw [rep_succ, List.length_append, ih, Nat.succ_mul, Nat.add_comm]
theorem rep_add (n m : Nat) (l : List Nat) : rep (n + m) l = rep n l ++ rep m l := by
  induction n with
  | zero => simp [rep]
  | succ n ih => rw [Nat.succ_add, rep_succ, ih, rep_succ, List.append_assoc]
theorem rep_mem {n : Nat} {l : List Nat} {c : Nat} (h : c ∈ rep n l) : c ∈ l := by
  induction n with
  | zero => simp [rep] at h
  | succ n ih =>
    rw [rep_succ, List.mem_append] at h
    exact h.elim id ih
theorem fold_rep (x : Array Nat) : ∀ (n : Nat) (acc : Array Nat), ((List.replicate n x).foldl (· ++ ·) acc).toList = acc.toList ++ rep n x.toList
  | 0, acc => by simp [rep]
  | n + 1, acc => by rw [List.replicate_succ, List.foldl_cons, fold_rep x n, rep_succ, Array.toList_append, List.append_assoc]
theorem mul_list (x : Str) {n : Int} (h : 0 ≤ n) : (Txt.mul x n).cps.toList = rep n.toNat x.cps.toList := by
  unfold Txt.mul
  split
  · rename_i h1
    have e : n = 0 := by omega
    subst e
    rfl
  · split
    · rename_i _ h2
      rw [Bool.or_eq_true, beq_iff_eq, beq_iff_eq] at h2
      rcases h2 with rfl | h2
      · show _ = rep 1 _
        rw [rep_succ]
        simp [rep]
      · have e : x.cps.toList = [] := List.length_eq_zero_iff.mp (by rw [len_list]; exact h2)
        have e2 : rep n.toNat [] = [] := List.length_eq_zero_iff.mp (by rw [rep_len]; simp)
        rw [e, e2]
    · rw [fold_rep]
      rfl
theorem repr_ok : ∀ c ∈ okSigns, reprChar 39 c = [c] := by decide +kernel
theorem fold_repr : ∀ (l : List Nat) (acc : Array Nat), (∀ c ∈ l, c ∈ okSigns) → (l.foldl (fun out c => out ++ (reprChar 39 c).toArray) acc).toList = acc.toList ++ l
  | [], acc, _ => by simp
  | c :: l, acc, h => by
    rw [List.foldl_cons, fold_repr l _ (fun y hy => h y (List.mem_cons_of_mem _ hy)), repr_ok c (h c (List.mem_cons_self ..))]
    simp
theorem quote_ok {x : Str} (h : ∀ c ∈ x.cps.toList, c ∈ okSigns) : reprQuote x = 39 := by
  unfold reprQuote
  have : x.cps.contains 39 = false := by
    rw [Bool.eq_false_iff]
    intro e
    have e := h 39 (Array.mem_toList_iff.mpr (Array.contains_iff_mem.mp e))
    revert e
    decide
  rw [this]
  rfl
theorem repr_list {x : Str} (h : ∀ c ∈ x.cps.toList, c ∈ okSigns) : (reprText x).cps.toList = 39 :: (x.cps.toList ++ [39]) := by
  unfold reprText
  rw [quote_ok h]
  dsimp only
  rw [Array.toList_push, ← Array.foldl_toList, fold_repr _ _ h]
  rfl
theorem qt_list (x : Str) : (qt x).cps.toList = 39 :: (x.cps.toList ++ [39]) := by
  unfold qt
  rw [cps_app, cps_app, show (Str.ofString "'").cps.toList = [39] by decide +kernel]
  rfl
theorem at_row {F R T : List Nat} {k : Nat} (hk : k < R.length) : (39 :: (F ++ (R ++ T)))[F.length + 1 + k]? = R[k]? := by
  rw [show F.length + 1 + k = (F.length + k) + 1 by omega, List.getElem?_cons_succ, List.getElem?_append_right (by omega), List.getElem?_append_left (by omega)]
  congr 1
  omega
theorem at_front {F A B : List Nat} {k : Nat} (hk : k < F.length + 1) : (39 :: (F ++ A))[k]? = (39 :: (F ++ B))[k]? := by
  cases k with
  | zero => rfl
  | succ k => rw [List.getElem?_cons_succ, List.getElem?_cons_succ, List.getElem?_append_left (by omega), List.getElem?_append_left (by omega)]
theorem sh_lt {F R1 R2 R3 T1 T2 T3 : List Nat} {n : Nat} (l1 : R1.length = 10) (l2 : R2.length = 10) (l3 : R3.length = 10) (hn : n < 10) (hs : ∀ j, j < n → R1[j]? = R3[j]? ∧ R2[j]? = R3[j]?) (hp : ¬ (R1[n]? = R3[n]? ∧ R2[n]? = R3[n]?)) :
    Sh (39 :: (F ++ (R1 ++ T1))) (39 :: (F ++ (R2 ++ T2))) (39 :: (F ++ (R3 ++ T3))) (F.length + 1 + n) where
  la := by simp; omega
  lb := by simp; omega
  lc := by simp; omega
  same := by
    intro j hj
    by_cases h : j < F.length + 1
    · exact ⟨at_front h, at_front h⟩
    · obtain ⟨k, rfl⟩ : ∃ k, j = F.length + 1 + k := ⟨j - (F.length + 1), by omega⟩
      rw [at_row (by omega), at_row (by omega), at_row (by omega)]
      exact hs k (by omega)
  part := by
    rintro ⟨_, _, _, h1, h2⟩
    rw [at_row (by omega), at_row (by omega)] at h1
    rw [at_row (by omega), at_row (by omega)] at h2
    exact hp ⟨h1, h2⟩
theorem sh_all {X : List Nat} : Sh X X X X.length where
  la := Nat.le_refl _
  lb := Nat.le_refl _
  lc := Nat.le_refl _
  same := fun _ _ => ⟨rfl, rfl⟩
  part := fun h => absurd h.1 (Nat.lt_irrefl _)
theorem sh_ten {F T : List Nat} {y : Nat} (hR : y ≠ 39) : Sh (39 :: (F ++ [39])) (39 :: (F ++ [39])) (39 :: (F ++ (y :: T))) (F.length + 1) where
  la := by simp
  lb := by simp
  lc := by simp
  same := fun j hj => ⟨at_front hj, at_front hj⟩
  part := by
    rintro ⟨_, _, _, h1, _⟩
    have e1 := at_row (F := F) (R := [39]) (T := []) (k := 0) (by simp)
    have e2 := at_row (F := F) (R := [y]) (T := T) (k := 0) (by simp)
    simp only [Nat.add_zero, List.append_nil, List.singleton_append] at e1 e2
    rw [e1, e2] at h1
    simp at h1
    exact hR h1.symm
theorem row_len (x : Int) : (rowL x).length = 10 := rfl
theorem fin_max (d a b c : Nat) : max ((d + 10 * a + 10 * (b + 1) + 2 : Nat) : Int) (max ((d + 10 * a + 10 * (b + 1) + 2 : Nat) : Int) ((d + 10 * a + 10 * (b + 1 + c) + 2 : Nat) : Int)) = (d : Int) + 10 * ((a : Int) + ((b + 1 : Nat) : Int) + (c : Int)) + 2 := by omega
theorem fin_small {d a b c : Nat} (a1 : (a : Int) < 9) (b1 : ((b + 1 : Nat) : Int) < 10) (c1 : (c : Int) < 3) (d1 : (d : Int) < 10) : d + 10 * a + 10 * (b + 1) + 2 ≤ 192 ∧ d + 10 * a + 10 * (b + 1 + c) + 2 ≤ 212 := by omega
theorem fin_bounds {g1 g2 g3 H A B : Nat} (e1 : g1 = A) (e2 : g2 = A) (e3 : g3 = B) (hA : A + 2 ≤ 192) (hB : B + 2 ≤ 212) (hH : H ≤ A + 2) :
    (g1 ≤ 990 ∧ g2 ≤ 990 ∧ g3 ≤ 990) ∧ (0 ≤ (H : Int) ∧ (H : Int) < 1000) ∧ (g1 + 2 < 1000 ∧ g2 + 2 < 1000 ∧ g3 + 2 < 1000) := by omega
theorem pure_fin : PureFin := by
  intro s0 s1 s2 a b c d base one two tm col col2 hbase hone htwo htm hin hmin hc2 a0 a1 b0 b1 c0 c1 d0 d1 G1 G2 G3 hG1 hG2 hG3
  obtain ⟨n, rfl, hn, hsame, hpart⟩ := rows_part htm hin hmin hc2
  obtain ⟨a, rfl⟩ : ∃ k : Nat, a = (k : Int) := ⟨a.toNat, by omega⟩
  obtain ⟨b, rfl⟩ : ∃ k : Nat, b = ((k + 1 : Nat) : Int) := ⟨b.toNat - 1, by omega⟩
  obtain ⟨c, rfl⟩ : ∃ k : Nat, c = (k : Int) := ⟨c.toNat, by omega⟩
  obtain ⟨d, rfl⟩ : ∃ k : Nat, d = (k : Int) := ⟨d.toNat, by omega⟩
  clear hbase hone htwo htm hin hmin hc2
  have ea : (Str.ofString "a").cps.toList = [97] := by decide +kernel
  have hF : (frontOf (d : Int) (a : Int) (lrAcc base 3)).cps.toList = rep d [97] ++ rep a (rowL base) := by
    unfold frontOf
    rw [cps_app, mul_list _ (by omega), mul_list _ (by omega), ea, rowL_is, Int.toNat_natCast, Int.toNat_natCast]
  have hFl : (rep d [97] ++ rep a (rowL base)).length = d + 10 * a := by
    rw [List.length_append, rep_len, rep_len, row_len]
    simp
    omega
  have hFok : ∀ y ∈ rep d [97] ++ rep a (rowL base), y ∈ okSigns := by
    intro y hy
    rcases List.mem_append.mp hy with h | h
    · rw [List.mem_singleton.mp (rep_mem h)]; decide
    · exact rowL_ok base y (rep_mem h)
  have e1 : G1.cps.toList = (rep d [97] ++ rep a (rowL base)) ++ rep (b + 1) (rowL one) := by
    rw [hG1, cps_app, hF, mul_list _ (by omega), rowL_is, Int.toNat_natCast]
  have e2 : G2.cps.toList = (rep d [97] ++ rep a (rowL base)) ++ rep (b + 1) (rowL two) := by
    rw [hG2, cps_app, hF, mul_list _ (by omega), rowL_is, Int.toNat_natCast]
  have e3 : G3.cps.toList = (rep d [97] ++ rep a (rowL base)) ++ rep (b + 1 + c) (rowL base) := by
    rw [hG3, cps_app, hF, mul_list _ (by omega), rowL_is, ← Int.natCast_add, Int.toNat_natCast]
  clear hG1 hG2 hG3 hF
  generalize rep d [97] ++ rep a (rowL base) = F at *
  have ok : ∀ (m : Nat) (x : Int), ∀ y ∈ F ++ rep m (rowL x), y ∈ okSigns := by
    intro m x y hy
    rcases List.mem_append.mp hy with h | h
    · exact hFok y h
    · exact rowL_ok x y (rep_mem h)
  have q1 : reprText G1 = qt G1 := str_of_list (by rw [repr_list (by rw [e1]; exact ok _ _), qt_list])
  have q2 : reprText G2 = qt G2 := str_of_list (by rw [repr_list (by rw [e2]; exact ok _ _), qt_list])
  have q3 : reprText G3 = qt G3 := str_of_list (by rw [repr_list (by rw [e3]; exact ok _ _), qt_list])
  have f1 : (qt G1).cps.toList = 39 :: (F ++ (rep (b + 1) (rowL one) ++ [39])) := by rw [qt_list, e1, List.append_assoc]
  have f2 : (qt G2).cps.toList = 39 :: (F ++ (rep (b + 1) (rowL two) ++ [39])) := by rw [qt_list, e2, List.append_assoc]
  have f3 : (qt G3).cps.toList = 39 :: (F ++ (rep (b + 1 + c) (rowL base) ++ [39])) := by rw [qt_list, e3, List.append_assoc]
  have g1 : G1.length = d + 10 * a + 10 * (b + 1) := by rw [← len_list, e1, List.length_append, hFl, rep_len, row_len]; omega
  have g2 : G2.length = d + 10 * a + 10 * (b + 1) := by rw [← len_list, e2, List.length_append, hFl, rep_len, row_len]; omega
  have g3 : G3.length = d + 10 * a + 10 * (b + 1 + c) := by rw [← len_list, e3, List.length_append, hFl, rep_len, row_len]; omega
  have t : ∀ x : Str, (qt x).length = x.length + 2 := fun x => by rw [← len_list, qt_list, ← len_list]; simp
  obtain ⟨H, hH, S⟩ : ∃ H : Nat, headOf (a : Int) ((b + 1 : Nat) : Int) (c : Int) (d : Int) (n : Int) = (H : Int) ∧ Sh (qt G1).cps.toList (qt G2).cps.toList (qt G3).cps.toList H := by
    by_cases h10 : n = 10
    · have r1 : rowL one = rowL base := List.ext_getElem? fun j => by
        by_cases hj : j < 10
        · exact (hsame j (by omega)).1
        · rw [List.getElem?_eq_none (by rw [row_len]; omega), List.getElem?_eq_none (by rw [row_len]; omega)]
      have r2 : rowL two = rowL base := List.ext_getElem? fun j => by
        by_cases hj : j < 10
        · exact (hsame j (by omega)).2
        · rw [List.getElem?_eq_none (by rw [row_len]; omega), List.getElem?_eq_none (by rw [row_len]; omega)]
      rw [r1] at f1
      rw [r2] at f2
      by_cases hc0 : c = 0
      · subst hc0
        refine ⟨(qt G3).length, ?_, ?_⟩
        · unfold headOf
          rw [if_pos (by omega), if_pos (by rfl), t, g3]
          omega
        · rw [f1, f2, f3, ← len_list, f3]
          exact sh_all
      · obtain ⟨c, rfl⟩ : ∃ k, c = k + 1 := ⟨c - 1, by omega⟩
        refine ⟨d + 10 * a + 10 * (b + 1) + 1, ?_, ?_⟩
        · unfold headOf
          rw [if_pos (by omega), if_neg (by omega)]
          omega
        · rw [f1, f2, f3, rep_add (b + 1) (c + 1), rep_succ c]
          have hk : kindC base ≠ 39 := fun e => by
            have := kind_ok base
            rw [e] at this
            revert this
            decide
          have := sh_ten (F := F ++ rep (b + 1) (rowL base)) (T := (rowL base).tail ++ rep c (rowL base) ++ [39]) hk
          rw [List.length_append, hFl, rep_len, row_len, Nat.mul_comm (b + 1) 10] at this
          simp only [List.append_assoc] at this ⊢
          exact this
    · refine ⟨F.length + 1 + n, ?_, ?_⟩
      · unfold headOf
        rw [if_neg (by omega), hFl]
        omega
      · rw [f1, f2, f3, Nat.add_right_comm, rep_succ, rep_succ, rep_succ]
        simp only [List.append_assoc]
        exact sh_lt (row_len _) (row_len _) (row_len _) (by omega) hsame (hpart (by omega))
  have hmax : max3N (qt G1) (qt G2) (qt G3) = mostOf (a : Int) ((b + 1 : Nat) : Int) (c : Int) (d : Int) := by
    unfold max3N mostOf
    rw [t, t, t, g1, g2, g3]
    exact fin_max d a b c
  have lH := S.la
  rw [len_list, t, g1] at lH
  rw [q1, q2, q3, hH, t, t, t]
  obtain ⟨k1, k2, k3⟩ := fin_bounds g1 g2 g3 (fin_small a1 b1 c1 d1).1 (fin_small a1 b1 c1 d1).2 lH
  refine ⟨k1, k2, k3, hok_sh _ _ _, ?_, ?_, ?_⟩
  · exact csr_told hmax (pfx_sh S (.inl rfl)) (by rw [← len_list]; exact S.la)
  · exact csr_told hmax (pfx_sh S (.inr (.inl rfl))) (by rw [← len_list]; exact S.lb)
  · exact csr_told hmax (pfx_sh S (.inr (.inr rfl))) (by rw [← len_list]; exact S.lc)
theorem pure_law : PureLaw := ⟨pl_row, pl_mask, pl_split, pl_kind, pl_len, pure_fin⟩
end Mine
end
end
theorem PySem.Challenge.cw_om0040_01_holds : PySem.Challenge.rw_om0040_01.Holds :=
  Mine.lawT Mine.pure_law
