import PyProof.Rows.All
import Wide.All
import OpenK.AllK
import Wide.FinOn
import Lean
import PySem.Challenge.RW_ez0041_01
set_option Elab.async false
set_option maxRecDepth 100000
set_option maxHeartbeats 8000000
section
open PySem PySem.W PyProof.Rows
namespace Mine
open_top hd for PySem.Challenge.rw_ez0041_01
end Mine
end
section
theorem Mine.rst_M0 : True := by (w_top off); first | (walk1; done) | trivial
open PySem PySem.W PyProof.Rows PySem.Calls
set_option maxHeartbeats 4000000
namespace Mine
theorem code_slot_at {prog : Program} {w : World} {A : Around} {s : Shared} {R : Result → Shared → Prop} {i owner n : String} {self : Value} {rest : List Value} {kw : List (Str × Value)} {b : Builtin}
    (hq : (Code.builtin i ⟨self :: rest, kw⟩).quiet = true) (hb : entryFor table i = some b) (hk : builtinKind i = some .slot) (hs : splitId i = some (owner, n))
    (hi : Looks (model prog w) s.heap (isInstance self (.type owner)) true) (ha : argsOk i ⟨self :: rest, kw⟩)
    (h : wpAny (model prog w) (A.under (.builtin i ⟨self :: rest, kw⟩)) (b ⟨self :: rest, kw⟩)
      (fun fin s' => match fin with | .done f => R (.ok f) s' | .again c' => c'.quiet = true ∧ codeAny (model prog w) A c' R s') (fun e s' => R (.error e) s') s) :
    codeAny (model prog w) A (.call (.builtin i) ⟨self :: rest, kw⟩) R s :=
  codeAny_call_builtin_at hq hb (check_slot hk hs hi ha h)
theorem code_slot {prog : Program} {w : World} {A : Around} {s : Shared} {R : Result → Shared → Prop} {i owner n : String} {self : Value} {rest : List Value} {kw : List (Str × Value)} {b : Builtin}
    (hq : plainId i = true) (hb : entryFor table i = some b) (hk : builtinKind i = some .slot) (hs : splitId i = some (owner, n))
    (hi : Looks (model prog w) s.heap (isInstance self (.type owner)) true) (ha : argsOk i ⟨self :: rest, kw⟩)
    (h : wpAny (model prog w) A.in1 (b ⟨self :: rest, kw⟩)
      (fun fin s' => match fin with | .done f => R (.ok f) s' | .again c' => c'.quiet = true ∧ codeAny (model prog w) A c' R s') (fun e s' => R (.error e) s') s) :
    codeAny (model prog w) A (.call (.builtin i) ⟨self :: rest, kw⟩) R s :=
  codeAny_call_builtin hq hb (check_slot hk hs hi ha h)
theorem tup_kinds : (Manifest.find? "tuple").bind (fun t => some (t.attrs.lookup "__getitem__", t.attrs.lookup "__getattribute__", t.attrs.lookup "__eq__")) = some (some .slot, some .slot, some .slot) := by decide +kernel
theorem kind_of {i n : String} {k : Option Manifest.AttrKind} (hs : splitId i = some ("tuple", n)) (h : (Manifest.find? "tuple").bind (fun t => some (t.attrs.lookup n)) = some k) : builtinKind i = k := by
  have e : builtinKind i = (Manifest.find? "tuple").bind (·.attrs.lookup n) := by simp only [builtinKind, hs]
  rw [e]
  generalize Manifest.find? "tuple" = o at h ⊢
  cases o with
  | none => cases h
  | some t => exact Option.some.inj h
theorem split_gi : splitId "tuple.__getitem__" = some ("tuple", "__getitem__") := by decide +kernel
theorem split_ga : splitId "tuple.__getattribute__" = some ("tuple", "__getattribute__") := by decide +kernel
theorem split_eq : splitId "tuple.__eq__" = some ("tuple", "__eq__") := by decide +kernel
theorem kinds3 {a b c : String} {x y z : Option Manifest.AttrKind} {o : Option Manifest.BuiltinType} (h : o.bind (fun t => some (t.attrs.lookup a, t.attrs.lookup b, t.attrs.lookup c)) = some (x, y, z)) :
    o.bind (fun t => some (t.attrs.lookup a)) = some x ∧ o.bind (fun t => some (t.attrs.lookup b)) = some y ∧ o.bind (fun t => some (t.attrs.lookup c)) = some z := by
  cases o with
  | none => cases h
  | some t =>
    have e := Option.some.inj h
    have e1 : t.attrs.lookup a = x := congrArg (·.1) e
    have e2 : t.attrs.lookup b = y := congrArg (·.2.1) e
    have e3 : t.attrs.lookup c = z := congrArg (·.2.2) e
    exact ⟨congrArg some e1, congrArg some e2, congrArg some e3⟩
theorem kind_gi : builtinKind "tuple.__getitem__" = some .slot := kind_of split_gi (kinds3 tup_kinds).1
theorem kind_ga : builtinKind "tuple.__getattribute__" = some .slot := kind_of split_ga (kinds3 tup_kinds).2.1
theorem kind_eq : builtinKind "tuple.__eq__" = some .slot := kind_of split_eq (kinds3 tup_kinds).2.2
theorem my_iteT {b : Bool} {A B : Prop} (h : b = true) (hA : A) : if b = true then A else B := by rw [if_pos h]; exact hA
theorem my_iteF {b : Bool} {A B : Prop} (h : b = false) (hB : B) : if b = true then A else B := by rw [if_neg (by rw [h]; decide)]; exact hB
end Mine

end
section
theorem Mine.rst_B1 : True := by (w_top off); first | (walk1; done) | trivial
open PySem PySem.W PyProof.Rows PySem.Calls
set_option maxHeartbeats 4000000
namespace Mine

def LI (o : Obj) (l : Addr) (i : Nat) : Prop := o.cls = .type "list_iterator" ∧ o.data = .fields #[.ref l, .int i 0]

section
variable {prog : Program} {w : World} {A : Around} {E : Value → Shared → Prop} {s : Shared} {h₀ : Heap} {L it l : Addr} {m : Str → Option Value} {news : List (Addr × Obj)} {g : Obj → List (Addr × Obj)} {io ol : Obj} {x : Value} {i : Nat}

theorem special_li {items : Array Value} {Q : Option Value → Shared → Prop} (hit : s.heap.IsListIter it l i) (hl : s.heap.IsList l items) (hx : items[i]? = some x)
    (hQ : ∀ h', h'.IsListIter it l (i + 1) → Heap.SameBut it s.heap h' → Q (some x) { s with heap := h' }) :
    wpAny (model prog w) A (callSpecial? (.ref it) (Str.ofString "__next__")) Q E s := by
  obtain ⟨o, ho, hc, hd⟩ := id hit
  obtain ⟨ol, hol, _, nl, hdl⟩ := hl
  refine wpAny_callSpecial?_slot (name := Str.ofString "__next__") hit.typeIs slot_listiter_next
    (wpAny_call_entry slot_listiter_next hit.typeIs entry_listiter_next ?_ (args_listiter_next _))
  show wpAny _ _ (field (.ref it) 0 >>= _) _ _ s
  refine wpAny_bind (wpAny_field ho hd (x := .ref l) rfl ?_)
  show wpAny _ _ (if (Value.ref l == Value.none) = true then _ else _) _ _ s
  rw [if_neg (show ¬ ((Value.ref l == Value.none) = true) from Bool.false_ne_true)]
  show wpAny _ _ (field (.ref it) 1 >>= _) _ _ s
  refine wpAny_bind (wpAny_field ho hd (x := .int i 0) rfl ?_)
  show wpAny _ _ (seqItems? (.ref l) >>= _) _ _ s
  refine wpAny_bind (wpAny_seqItems hol hdl ?_)
  simp only [Int.toNat_natCast, hx]
  refine wpAny_bind (wpAny_setField ho hd (by simp) (wpAny_pure ⟨x, rfl, hQ _ ?_ (Heap.SameBut.update ..)⟩))
  exact ⟨_, Heap.get?_update_self _ ho (Obj.isFreed_of_fields (Obj.data_mapFields hd _)), (Obj.cls_mapFields ..).trans hc, by
    rw [Obj.data_mapFields hd]; simp [rawInt]⟩

theorem next_li {items : Array Value} {n : Nat} {Q : Value → Shared → Prop} (F : Fr h₀ L s.heap m) (N : News h₀ L s.heap news) (U : UpdF it io news g) (hi : LI io l i) (hl : (l, ol) ∈ news)
    (hc : ol.cls = .type "list") (hd : ol.data = .seq items n) (hx : items[i]? = some x)
    (h : ∀ h' o', Fr h₀ L h' m → News h₀ L h' (g o') → LI o' l (i + 1) → Q x { s with heap := h' }) :
    wpAny (model prog w) A (call (.builtin "next") [.ref it]) Q E s := by
  obtain ⟨pre, post, hn, hg, a, b⟩ := U.split
  have hmem : (it, io) ∈ news := by rw [hn]; exact List.mem_append_right _ (.head _)
  have hm := N (it, io) hmem
  have hit : s.heap.IsListIter it l i := ⟨io, hm.1, hi.1, hi.2⟩
  have hL : s.heap.IsList l items := ⟨ol, (N _ hl).1, hc, n, hd⟩
  refine call_function_entry (by decide +kernel) (by decide +kernel) kdk_entry_next (kdk_args_next _) ?_
  unfold Builtin.«next»
  refine wpAny_bind (m := someArgs "next" 1 2 _) (wpAny_of_eq (a := [Value.ref it]) (by first | rfl | kernel_rfl!) ?_)
  dsimp only
  refine wpAny_bind (wpAny_specialOf (name := Str.ofString "__next__") hit.typeIs slot_listiter_next.lookup ?_)
  refine wpAny_ite_split (fun hab => absurd hab (by decide)) (fun _ => ?_)
  refine wpAny_bind (special_li hit hL hx fun h' hit' hs => ?_)
  obtain ⟨o', ho', hc', hd'⟩ := hit'
  exact wpAny_pure ⟨_, rfl, h h' o' (F.change hs hm.2.1 hm.2.2) (hg o' ▸ (show News h₀ L s.heap (pre ++ (it, io) :: post) from hn ▸ N).setIn a b hs ho') ⟨hc', hd'⟩⟩

theorem iter_li {items : Array Value} {n : Nat} {Q : Value → Shared → Prop} (F : Fr h₀ L s.heap m) (N : News h₀ L s.heap news) (hl : (l, ol) ∈ news)
    (hc : ol.cls = .type "list") (hd : ol.data = .seq items n)
    (h : ∀ (I : Addr) h' oI, Fr h₀ L h' m → News h₀ L h' ((I, oI) :: news) → (∀ p ∈ news, p.1 < I) → LI oI l 0 → Q (.ref I) { s with heap := h' }) :
    wpAny (model prog w) A (call (.builtin "iter") [.ref l]) Q E s := by
  have hL : s.heap.IsList l items := ⟨ol, (N _ hl).1, hc, n, hd⟩
  refine call_function_entry (by decide +kernel) (by decide +kernel) kdk_entry_iter (kdk_args_iter _) ?_
  unfold Builtin.«iter»
  refine wpAny_bind (m := someArgs "iter" 1 2 _) (wpAny_of_eq (a := [Value.ref l]) (by first | rfl | kernel_rfl!) ?_)
  show wpAny _ _ (pyIter (.ref l) >>= _) _ _ _
  refine wpAny_bind (wpAny_pyIter_list hL ?_)
  exact wpAny_pure ⟨_, rfl, h _ _ _ (F.push _) (News.push F N _ rfl) (fun q hq => Heap.lt_size (N q hq).1) ⟨rfl, rfl⟩⟩
end
end Mine

end
section
theorem Mine.rst_B2 : True := by (w_top off); first | (walk1; done) | trivial
open PySem PySem.W PySem.W.X PyProof.Rows PySem.Calls
set_option maxHeartbeats 4000000
namespace Mine
theorem wp_le {α : Type} {M : Model} {A A' : Around} {t : Sem α} {Q : α → Shared → Prop} {E : Value → Shared → Prop} {s : Shared} (h : wpAny M A t Q E s)
    (hh : A'.handled = A.handled) (hd : A'.depth ≤ A.depth) (hf : A'.frames = A.frames) (hg : A'.guards = A.guards) (hu : A'.units ≤ A.units) : wpAny M A' t Q E s :=
  fun Γ p hΓ => h Γ p ⟨hΓ.1.trans hh, Nat.le_trans hΓ.2.1 hd, fun l hl => hΓ.2.2.1 l (hf.trans hl), fun g hg' => hΓ.2.2.2.1 g (hg.trans hg'), Nat.le_trans hΓ.2.2.2.2 hu⟩

section
variable {h₀ h h' : Heap} {L : Addr} {m : Str → Option Value} {old news sel : List (Addr × Obj)} {p : Addr × Obj}
theorem mem_keep (D : Mem h h' [] news) : ∀ b o, h.get? b = some o → h'.get? b = some o := fun b o e => D.keep b o e (by rw [show away [] b = true from rfl, Bool.or_true])
theorem mem_fr (F : Fr h₀ L h m) (D : Mem h h' [] news) : Fr h₀ L h' m := F.keeps (mem_keep D)
theorem mem_ne (D : Mem h h' [] news) (hp : p ∈ news) {b : Addr} {o : Obj} (e : h.get? b = some o) : b ≠ p.1 := fun q => by
  have := (D.nw p hp).2
  rw [← q, e] at this; cases this
theorem mem_off (D : Mem h h' [] news) (hp : p ∈ news) (N : News h₀ L h old) : ∀ q ∈ old, q.1 ≠ p.1 := fun q hq => mem_ne D hp (N q hq).1
theorem mem_news (F : Fr h₀ L h m) (N : News h₀ L h old) (D : Mem h h' [] news) (sub : ∀ q ∈ sel, q ∈ news) : News h₀ L h' (sel ++ old) := fun q hq => by
  rcases List.mem_append.mp hq with hq | hq
  · have hn := D.nw q (sub q hq)
    obtain ⟨oL, _, _, hL, _⟩ := F.ns
    refine ⟨hn.1, fun e => ?_, ?_⟩
    · rw [e, hL] at hn; cases hn.2
    · cases e : h₀.get? q.1 with
      | none => rfl
      | some o => rw [F.keep _ _ e] at hn; cases hn.2
  · exact ⟨mem_keep D _ _ (N q hq).1, (N q hq).2⟩
theorem mem_two {a b : Addr} {oa ob : Obj} (D : Mem h h' [] news) (ha : (a, oa) ∈ news) (hb : (b, ob) ∈ news) (hc : oa.cls ≠ ob.cls) : a ≠ b := fun e => by
  have h1 := (D.nw _ ha).1
  have h2 := (D.nw _ hb).1
  dsimp only at h1 h2
  rw [e, h2] at h1
  exact hc (by rw [Option.some.inj h1])
end
end Mine

end
section
theorem Mine.rst_B3 : True := by (w_top off); first | (walk1; done) | trivial
open PySem PySem.W PyProof.Rows PySem.Calls
set_option maxHeartbeats 4000000
namespace Mine
section
variable {prog : Program} {w : World} {A₀ A : Around} {s : Shared} {base h₀ : Heap} {L : Addr} {m : Str → Option Value} {env : Env} {news : List (Addr × Obj)} {K : Frag} {p : Program} {loose : List Str} {mean : ExcName → Option Value} {mg mb : Str → Option Value} {R : Result → Shared → Prop}
  {name qual : Str} {params : Arguments} {body : List Stmt} {scope : Scope} {dV kV doc pm cdv ct oc : Value} {an od : Option Addr} {osl : Array (Option Value)} {f : Addr} {args : Args} {binds : List (Str × Value)}
theorem code_defX0 (B : Below A₀ base [] h₀) (F : Fr h₀ L s.heap m) (X₀ : K.In h₀) (N : News h₀ L s.heap news) (T : Top p loose mean mg mb h₀) (hA : A.frames = some [env]) (hf : env.frame = some L) (hke : env.scope.kind = .function)
    (ho : K.lookup f = some ⟨oc, od, .func (fnOf name qual params body scope dV kV doc pm an cdv ct), osl⟩) (hcd : codeIn K cdv qual = true) (hroom : A.depth < recursionLimit)
    (hbind : BindsTo s (fnOf name qual params body scope dV kV doc pm an cdv ct) args binds) (hloc : ∀ y ∈ binds, scope.names.lookup y.1 = some .local)
    (h : ∀ g L' h₁, Fr h₀ L g m → Fr g L' h₁ (fun y => binds.reverse.lookup y) → News g L' h₁ news → Below A base [env] g → K.In g → Top p loose mean mg mb g → KtsDicts ([env].filterMap (·.frame)) g →
      wpAny (model prog w) (A.deeper (envOf qual scope L' f cdv)) (execs body (envOf qual scope L' f cdv))
        (fun fl s' => LeaveS0 ([env].filterMap (·.frame)) h₀ L m g R (match fl with | .ret v => v | _ => .none) s')
        (fun e s' => wpAny (model prog w) (A.deeper (envOf qual scope L' f cdv)) (leaving (envOf qual scope L' f cdv) e) (fun _ s'' => R (.error e) s'') (fun e' s'' => R (.error e') s'') s')
        { s with heap := h₁, toks := s.toks + binds.length })
    (hco : scope.isCoroutine = false) (hgen : scope.isGenerator = false) (hk : scope.kind = .function)
    (hcell : ∀ x ∈ scope.names, x.2 ≠ .cell) : codeAny (model prog w) A (.call (.ref f) args) R s := by
  have X := X₀.keeps F.keep
  have hfs : [env].filterMap (·.frame) = [L] := by simp [hf]
  refine codeAny_call_def (fd := fnOf name qual params body scope dV kV doc pm an cdv ct) (body := body) (binds := binds) hroom (X _ _ ho) rfl (T.nolimit.keeps F.keep) (codeRec_of X hcd) rfl hbind hcell hloc (fun h₁ hns hk₁ => ?_) hco hgen hk
  obtain ⟨FG, BG, st, lv⟩ := groundX (R := R) B F N hA hf hke
  obtain ⟨oL, es, ep, hLg, hLd, hLk, hLf⟩ := id FG.ns
  refine wpAny_mono (h _ s.heap.objs.size h₁ FG ⟨hns, fun b o e => hk₁ b o (of_hideAll _ e), Nat.le_of_eq (hideAll_size _ _)⟩
    (fun p hp => ⟨hk₁ _ _ (N p hp).1, Nat.ne_of_lt (Heap.lt_size (N p hp).1), hideAll_none _ (List.mem_map_of_mem hp)⟩) BG (X₀.keeps st) (T.keeps st) (fun b hb => by
      rw [hfs] at hb
      rw [List.mem_singleton.mp hb]
      exact ⟨oL, es, ep, hLg, hLd⟩)) (fun fl s' hl => ?_) fun _ _ y => y
  obtain ⟨g', L', m', news', T', F', N', k⟩ := hl
  rw [hfs] at T'
  have nL₀ : h₀.get? L = none := kts_self F
  obtain ⟨sl, hs⟩ := T'.up hLg
  refine k ⟨⟨_, es, ep, F'.keep _ _ hs, hLd, hLk, hLf⟩, fun b o e => F'.keep b o (T'.other b o (st b o e) (fun q => by
    rw [List.mem_singleton.mp q, nL₀] at e; cases e)), F.above⟩ fun p hp => ⟨(N' p hp).1, fun q => ?_, ?_⟩
  · have := (N' p hp).2.2; rw [q, hs] at this; cases this
  · cases q : h₀.get? p.1 with
    | none => rfl
    | some o =>
      obtain ⟨sl', hs'⟩ := T'.up (st _ _ q)
      have := (N' p hp).2.2
      rw [hs'] at this
      cases this
end
end Mine

end
section
theorem Mine.rst_M1 : True := by (w_top off); first | (walk1; done) | trivial
open PySem PySem.W PyProof.Rows PySem.Calls Builtin Builtin.ObjectAttr Builtin.Getset_descriptor
set_option maxHeartbeats 4000000
namespace Mine
theorem make_T {prog : Program} {w : World} {A : Around} {C : Addr} {h : Heap} {g : Array GenState} {d : Drawn} {t : Nat} {os : OsState} {rest : List Value} {oc : Value} {od : Option Addr} {cd : ClassData} {sl : Array (Option Value)} {c0 : Value} {cs : List Value}
    {Q : Value → Shared → Prop} {E : Value → Shared → Prop}
    (hC : h.get? C = some ⟨oc, od, .cls cd, sl⟩)
    (call : Looks (model prog w) h (specialOf (.ref C) "__call__") (some (.builtin "type.__call__")))
    (typ : Looks (model prog w) h (isInstance (.ref C) (.type "type")) true)
    (mro : Looks (model prog w) h (mroOf (.ref C)) (c0 :: cs))
    (made : Looks (model prog w) h (Bind.madeBy (.ref C)) none)
    (new : wpAny (model prog w) ((A.under (.builtin "type.__call__" ⟨.ref C :: rest, []⟩))) (getAttr (.ref C) "__new__") (fun f s₁ => wpAny (model prog w) (A.under (.builtin "type.__call__" ⟨.ref C :: rest, []⟩)) (PySem.call f (.ref C :: rest) [])
      (fun obj s₂ => Looks (model prog w) s₂.heap (isInstance obj (.ref C)) true ∧ wpAny (model prog w) (A.under (.builtin "type.__call__" ⟨.ref C :: rest, []⟩)) (callSpecial? obj "__init__" rest []) (fun r s₃ => r = some .none ∧ Q obj s₃) E s₂) E s₁) E ⟨h, g, d, t, os⟩) :
    wpAny (model prog w) A (PySem.call (.ref C) rest []) Q E ⟨h, g, d, t, os⟩ := by
  refine wpAny_call ?_
  refine codeAny_of_tree ?_
  show wpAny _ _ (callAny (.ref C) _) _ _ _
  refine nd_load hC ?_
  show wpAny _ _ (callAny.viaDunder (.ref C) _) _ _ _
  unfold callAny.viaDunder
  refine wpAny_bind (call.at ?_)
  dsimp only
  rw [tc_bind]
  refine wpAny_bind (wpAny_pure (wpAny_bind (wpAny_pure ?_)))
  refine wpAny_pure (a := Fin.again (.call (.builtin "type.__call__") ⟨.ref C :: rest, []⟩)) (And.intro rfl ?_)
  refine code_slot_at (Code.quiet_builtin _ (by decide +kernel)) entry_typeCall tc_kind tc_split typ (tc_args _ _ _) ?_
  unfold Builtin.«type.__call__»
  repeat (first | (with_reducible refine wpAny_mono new ?_ (fun _ _ e => e)) | simp only [Bool.false_eq_true, if_false, List.isEmpty_cons] | lk)
  intro f s₁ h₁
  refine nd_bind (wpAny_holding (wpAny_mono h₁ ?_ (fun _ _ e => e)))
  rintro obj s₂ ⟨L2, h₂⟩
  refine nd_bind (L2.here ?_)
  simp only [Bool.not_true, Bool.false_eq_true, if_false]
  refine nd_bind (wpAny_holding (wpAny_mono h₂ ?_ (fun _ _ e => e)))
  rintro r s₃ ⟨rfl, hQ⟩
  simp only [bne_self_eq_false, Bool.false_eq_true, if_false]
  exact wpAny_pure hQ
end Mine

end
section
theorem Mine.rst_M2 : True := by (w_top off); first | (walk1; done) | trivial
open PySem PySem.W PyProof.Rows PySem.Calls Builtin Builtin.ObjectAttr Builtin.Getset_descriptor
set_option maxHeartbeats 4000000
namespace Mine
theorem osa_tok {prog : Program} {w : World} {A : Around} {s : Shared} {K : Frag} {x C dx L : Addr} {h₀ : Heap} {m : Str → Option Value} {news news' : List (Addr × Obj)} {ox : Obj} {es es' : List DictEntry} {n n' : Nat} {name : Str} {v : Value} {cd : ClassData} {tk : Tok}
    {R : Result → Shared → Prop} (F : Fr h₀ L s.heap m) (X₀ : K.In h₀) (N : News h₀ L s.heap news) (I : InstAt s.heap x ox C (some (dictOf es n))) (hd : ox.dict = some dx)
    (hc : clsIn K C = some cd) (hh : cd.hasDict = true) (hr : refuseLoop (.ref x) "__setattr__" cd.mro = pure ())
    (ho : mroIn K C (.type "object") = some true) (ht : findIn K (.ref C) name = some none) (hl : (getL name es).isSome = true)
    (e : (putL name (PyData.keyHash w.params name) (.str name s.toks) v es, putN name es n) = (es', n')) (U : Upd dx (dictOf es n) (dictOf es' n') news news') (hz : es'.length ≤ 1000)
    (h : ∀ h', Fr h₀ L h' m → News h₀ L h' news' → R (.ok (.ret .none)) { s with heap := h', toks := s.toks + 1 }) :
    codeAny (model prog w) A (.call (.builtin "object.__setattr__") ⟨[.ref x, .str name tk, v], []⟩) R s := by
  obtain ⟨pre, post, rfl, rfl, h1, h2⟩ := U.split
  obtain ⟨e1, e2⟩ := Prod.mk.inj e
  have X := X₀.keeps F.keep
  have SF := PySem.F.store_object
  have sub : Looks (model prog w) s.heap (isInstance (.ref x) (.type "object")) true := I.type.andThen (looks_mroIn X ho)
  refine codeAny_call_builtin SF.slot.plain SF.entry (@check_slot (model prog w) _ _ s "object.__setattr__" "object" "__setattr__" (.ref x) [.str name tk, v] [] _ SF.kind SF.split sub (SF.args (.ref x) (.str name tk) v) ?_)
  have hm : Looks (model prog w) s.heap (mroOf (.ref C)) cd.mro := (looks_clsIn X hc).andThen .now
  have L3 : Looks (model prog w) s.heap (storeTaker? none) none := .now
  have eo : Obj.putName name (PyData.keyHash w.params name) (.str name s.toks) v (dictOf es n) = dictOf es' n' := by rw [putName_dict, e1, e2]
  obtain ⟨U1, U2⟩ := news_upd (f := Obj.putName name (PyData.keyHash w.params name) (.str name s.toks) v) F N h1 h2 eo rfl
  have D := (N (dx, dictOf es n) (by simp)).1
  have D' := (U2 (dx, dictOf es' n') (by simp)).1
  rw [osa_eq, refuse_eq]
  refine wpAny_bind (wpAny_bind (I.type.here (wpAny_bind (hm.here ?_))))
  rw [hr]
  refine wpAny_pure (wpAny_bind (I.type.here (wpAny_bind ((looks_findIn X ht).here (wpAny_bind (L3.here ?_))))))
  obtain ⟨hx, hcl, hn, -⟩ := I
  obtain ⟨oc, odi, oda, osl⟩ := ox
  dsimp only at hcl hd
  subst hcl hd
  refine wpAny_bind (wpAny_pure (wpAny_bind (wpAny_bind (wpAny_loadPart hx (wpAny_bind ((looks_clsIn X hc).here ?_))))))
  rw [hh]
  refine wpAny_pure (a := some dx) (wpAny_bind (wpAny_pure (wpAny_bind ?_)))
  unfold nsSet
  refine wpAny_bind (wpAny_bind (wpAny_askSetting (wpAny_pure (wpAny_bind (wpAny_mkText (wpAny_bind (wpAny_loadPart D ?_)))))))
  dsimp only
  have c : (!es.toArray.any (·.key.isStr name) && es.toArray.any (·.refKey)) = false := by
    rw [← Array.any_toList, ← Array.any_toList]
    unfold getL at hl
    split at hl
    · rename_i en he
      rw [List.any_eq_true.mpr ⟨en, List.mem_of_find?_eq_some he, List.find?_some he⟩]; rfl
    · split at hl
      · cases hl
      · rename_i z; rw [Bool.not_eq_true] at z; rw [z, Bool.and_false]
  rw [aRefKeyMayBeTheName_at, c]
  refine wpAny_updatePart D ?_
  refine wpAny_bind (wpAny_lookBehind D' (pastItsLine_dict (by rw [List.size_toArray, sizeLine_eq]; omega)) ?_)
  exact wpAny_pure (h _ U1 U2)
theorem set_tok {prog : Program} {w : World} {A : Around} {E : Value → Shared → Prop} {s : Shared} {K : Frag} {x C dx L : Addr} {h₀ : Heap} {m : Str → Option Value} {news news' : List (Addr × Obj)} {ox : Obj} {es es' : List DictEntry} {n n' : Nat} {name : Str} {v : Value} {cd : ClassData}
    {Q : Unit → Shared → Prop} (F : Fr h₀ L s.heap m) (X₀ : K.In h₀) (N : News h₀ L s.heap news) (I : InstAt s.heap x ox C (some (dictOf es n))) (hd : ox.dict = some dx)
    (hs : findIn K (.ref C) "__setattr__" = some (some (.builtin "object.__setattr__"))) (hc : clsIn K C = some cd) (hh : cd.hasDict = true) (hr : refuseLoop (.ref x) "__setattr__" cd.mro = pure ())
    (ho : mroIn K C (.type "object") = some true) (ht : findIn K (.ref C) name = some none) (hl : (getL name es).isSome = true)
    (e : (putL name (PyData.keyHash w.params name) (.str name (s.toks + 1)) v es, putN name es n) = (es', n')) (U : Upd dx (dictOf es n) (dictOf es' n') news news') (hz : es'.length ≤ 1000)
    (h : ∀ h', Fr h₀ L h' m → News h₀ L h' news' → Q () { s with heap := h', toks := s.toks + 2 }) :
    wpAny (model prog w) A (setAttr (.ref x) name v) Q E s :=
  set_plain (X₀.keeps F.keep) I hs (osa_tok (s := { s with toks := s.toks + 1 }) F X₀ N I hd hc hh hr ho ht hl e U hz fun h' F' N' => h h' F' N')
end Mine

end
section
theorem Mine.rst_M3 : True := by (w_top off); first | (walk1; done) | trivial
open PySem PySem.W PyProof.Rows PySem.Calls
set_option maxHeartbeats 4000000
namespace Mine
theorem getItem_tok {prog : Program} {w : World} {A : Around} {E : Value → Shared → Prop} {s : Shared} {K : Frag} {x C : Addr} {ox : Obj} {od : Option Obj} {items : Array Value} {n : Nat} {k : Int} {u : Tok} {j : Nat} {v : Value} {Q : Value → Shared → Prop}
    (X : K.In s.heap) (I : InstAt s.heap x ox C od) (hdt : ox.data = .seq items n) (hq : noSeq K C = true) (hs : findIn K (.ref C) "__getitem__" = some (some (.builtin "tuple.__getitem__")))
    (hm : mroIn K C (.type "tuple") = some true) (hlo : -(2 ^ 63) ≤ k) (hhi : k < 2 ^ 63) (hj : seqIndex? k items.size = some j) (hx : items[j]? = some v) (h : Q v s) :
    wpAny (model prog w) A (getItem (.ref x) (.int k u)) Q E s := by
  unfold getItem sequenceKey
  refine wpAny_holding (wpAny_bind (wpAny_bind (I.type.here ?_)))
  refine wpAny_bind ((anyM_none X hq).here ?_)
  rw [if_pos (show (!false) = true from rfl)]
  refine wpAny_pure (wpAny_bind (kfo_special X I hs slot_tuple_getitem.bind ?_))
  refine wpAny_call (code_slot slot_tuple_getitem.plain entry_tuple_getitem kind_gi split_gi (I.type.andThen (looks_mroIn X hm)) (args_tuple_getitem (.ref x) (.int k u)) ?_)
  show wpAny _ _ (Builtin.Tuple.tupleItemsOf (.ref x) >>= _) _ _ s
  unfold Builtin.Tuple.tupleItemsOf
  refine wpAny_bind (wpAny_bind (wpAny_seqItems I.at_ hdt (wpAny_pure ?_)))
  with_reducible refine wpAny_bind (wpAny_typeOf (T := "int") (by with_unfolding_all exact typeIs_int s k u) ?_)
  rw [if_neg (by decide)]
  with_reducible refine wpAny_bind (wpAny_specialOf (T := "int") (by with_unfolding_all exact typeIs_int s k u) int_index ?_)
  rw [if_neg (by simp)]
  refine wpAny_bind (wpAny_of_eq (a := k) rfl ?_)
  rw [if_neg (by simp only [Bool.or_eq_true, decide_eq_true_eq]; omega)]
  simp only [hj, Option.bind_some, hx]
  exact wpAny_pure (wpAny_pure h)
theorem at0 {a b : Value} : (#[a, b] : Array Value)[0]? = some a := rfl
theorem at1 {a b : Value} : (#[a, b] : Array Value)[1]? = some b := rfl
theorem ix0 {a b : Value} : seqIndex? 0 (#[a, b] : Array Value).size = some 0 := rfl
theorem ix1 {a b : Value} : seqIndex? 1 (#[a, b] : Array Value).size = some 1 := rfl
theorem tail_tok {prog : Program} {w : World} {A : Around} {E : Value → Shared → Prop} {s : Shared} {K : Frag} {x C L : Addr} {h₀ : Heap} {m : Str → Option Value} {ox : Obj} {od : Option Obj} {items : Array Value} {n : Nat} {k : Int} {u : Tok} {j : Nat} {v : Value} {Q : Value → Shared → Prop} {value slice : PySem.Expr}
    (F : Fr h₀ L s.heap m) (X₀ : K.In h₀) (I : InstAt s.heap x ox C od) (hdt : ox.data = .seq items n) (hq : noSeq K C = true) (hs : findIn K (.ref C) "__getitem__" = some (some (.builtin "tuple.__getitem__")))
    (hm : mroIn K C (.type "tuple") = some true) (hlo : -(2 ^ 63) ≤ k) (hhi : k < 2 ^ 63) (hj : seqIndex? k items.size = some j) (hx : items[j]? = some v) (h : Q v s)
    (hsu : subscripted slice false (.ref x) (.int k u) = operate [.ref x, .int k u] (getItem (.ref x) (.int k u))) :
    wpAny (model prog w) A (subscriptTail value slice (.ref x) (.int k u)) Q E s := by
  have X := X₀.keeps F.keep
  unfold subscriptTail
  refine wpAny_bind ?_
  rw [getitemInPython_of_ne (by intro e; cases e)]
  refine wpAny_bind (wpAny_bind (I.type.here ((looks_findIn X hs).here ?_)))
  have fin : wpAny (model prog w) A (subscripted slice false (.ref x) (.int k u)) (fun r s₃ => wpAny (model prog w) A (letTemporaryGo value (.ref x) r >>= fun _ => pure r) Q E s₃) E s := by
    rw [hsu]
    exact wpAny_operating (getItem_tok X I hdt hq hs hm hlo hhi hj hx (wpAny_bind (wpAny_letTemporaryGo (wpAny_pure h))))
  first
    | exact wpAny_pure (wpAny_bind fin)
    | exact wpAny_bind (wpAny_pure (wpAny_bind fin))
    | exact wpAny_bind fin
end Mine

end
section
theorem Mine.rst_M4 : True := by (w_top off); first | (walk1; done) | trivial
open PySem PySem.W PyProof.Rows PySem.Calls Builtin Builtin.ObjectAttr Builtin.Getset_descriptor
set_option maxHeartbeats 4000000
namespace Mine
section
variable {prog : Program} {w : World} {A : Around} {E : Value → Shared → Prop} {s : Shared} {K : Frag} {x C : Addr} {ox : Obj} {od : Option Obj} {name : Str} {expr : Bool} {Q : Value → Shared → Prop}
theorem tok_open (X : K.In s.heap) (I : InstAt s.heap x ox C od) (hga : findIn K (.ref C) "__getattribute__" = some (some (.builtin "tuple.__getattribute__"))) (hk : findIn K (.ref C) "__getattr__" = some none)
    (hm : mroIn K C (.type "tuple") = some true)
    (h : wpAny (model prog w) A.in1 (Builtin.«object.__getattribute__» ⟨[.ref x, .str name s.toks], []⟩)
      (fun fin s' => match fin with | .done (.ret v) => wpAny (model prog w) A (handedOut v) Q E s' | _ => False) (fun _ _ => False) { s with toks := s.toks + 1 }) :
    wpAny (model prog w) A (getAttr (.ref x) name expr) Q E s := by
  obtain ⟨hh, g, d, t, os⟩ := s
  have L0 := I.type (M := model prog w)
  have L1 := looks_findIn (M := model prog w) X hga
  have L2 := looks_findIn (M := model prog w) X hk
  unfold getAttr getAttrBy
  refine wpAny_bind (wpAny_mkText (wpAny_holding (wpAny_bind (L0.at (wpAny_bind (L1.at ?_))))))
  show wpAny _ _ (getAttrByItsOwn _ _ _ _ _ _) _ _ _
  unfold getAttrByItsOwn hookBefore
  refine wpAny_bind (L2.at ?_)
  refine wpAny_bind (wpAny_attempt (wpAny_holding ?_))
  unfold callGetattribute boundAndCalled
  rw [if_neg (by simp [onTheHeap]), F.slot_tuple_getattribute.bind]
  refine wpAny_bind (wpAny_pure ?_)
  refine wpAny_call ?_
  show codeAny _ _ (.call (.builtin "tuple.__getattribute__") ⟨[.ref x, .str name t], []⟩) _ _
  refine (code_slot F.slot_tuple_getattribute.plain F.entry_tuple_ga kind_ga split_ga (L0.andThen (looks_mroIn X hm)) (F.args_tuple_getattribute_2 (.ref x) (.str name t)) ?_)
  refine wpAny_mono h (fun fin s' z => ?_) (fun e s' z => z.elim)
  rcases fin with (_ | _ | _ | v) | _ <;> first | exact z | exact z.elim

theorem tok_value {v : Value} (X : K.In s.heap) (I : InstAt s.heap x ox C od) (hga : findIn K (.ref C) "__getattribute__" = some (some (.builtin "tuple.__getattribute__"))) (hk : findIn K (.ref C) "__getattr__" = some none)
    (hm : mroIn K C (.type "tuple") = some true) (hf : findObj K C od name = some (.value v)) (hh : handedIn v = true) (h : Q v { s with toks := s.toks + 1 }) : wpAny (model prog w) A (getAttr (.ref x) name expr) Q E s := by
  refine tok_open X I hga hk hm ?_
  obtain ⟨hh', g, d, t, os⟩ := s
  have L0 := I.type (M := model prog w)
  have L1 := looks_find (M := model prog w) X I hf
  refine wpAny_bind (wpAny_pure (wpAny_bind (wpAny_pure (wpAny_bind (L0.at (wpAny_bind (L1.at ?_)))))))
  refine wpAny_pure ?_
  show wpAny _ _ (handedOut v) _ _ _
  rw [handedOut_of hh]; exact wpAny_pure h

theorem tok_bind {g a : Value} (X : K.In s.heap) (I : InstAt s.heap x ox C od) (hga : findIn K (.ref C) "__getattribute__" = some (some (.builtin "tuple.__getattribute__"))) (hk : findIn K (.ref C) "__getattr__" = some none)
    (hm : mroIn K C (.type "tuple") = some true) (hf : findObj K C od name = some (.bind g a))
    (h : wpAny (model prog w) A.in1 (call g [a, .ref x, .ref C]) (fun v s' => wpAny (model prog w) A (handedOut v) Q E s') (fun _ _ => False) { s with toks := s.toks + 1 }) :
    wpAny (model prog w) A (getAttr (.ref x) name expr) Q E s := by
  refine tok_open X I hga hk hm ?_
  obtain ⟨hh', gg, d, t, os⟩ := s
  have L0 := I.type (M := model prog w)
  have L1 := looks_find (M := model prog w) X I hf
  refine wpAny_bind (wpAny_pure (wpAny_bind (wpAny_pure (wpAny_bind (L0.at (wpAny_bind (L1.at ?_)))))))
  show wpAny _ _ (bindTo g a (.ref x) (.ref C)) _ _ _
  unfold bindTo
  show wpAny _ _ (holding [a] (call g [a, .ref x, .ref C]) >>= ret) _ _ _
  exact wpAny_bind (wpAny_holding (wpAny_mono h (fun v s' z => wpAny_pure z) fun _ _ z => z))

theorem tok_prop {p fget : Addr} {rest : List Value} {od : Obj} (X : K.In s.heap) (I : InstAt s.heap x ox C (some od)) (hga : findIn K (.ref C) "__getattribute__" = some (some (.builtin "tuple.__getattribute__"))) (hk : findIn K (.ref C) "__getattr__" = some none)
    (hm : mroIn K C (.type "tuple") = some true) (hc : (clsIn K C).isSome = true)
    (ha : findIn K (.ref C) name = some (some (.ref p))) (hn : specialIn K (.ref p) "__get__" = some (some (.builtin "property.__get__"))) (ht : takesIn K (.ref p) = some true) (hp : recIn K p "property" = some (.ref fget :: rest))
    (h : codeAny (model prog w) A.in1 (.call (.ref fget) ⟨[.ref x], []⟩) (fun r s' => match r with | .ok (.ret v) => wpAny (model prog w) A (handedOut v) Q E s' | .ok _ => False | .error e => False) { s with toks := s.toks + 1 }) :
    wpAny (model prog w) A (getAttr (.ref x) name expr) Q E s :=
  tok_bind X I hga hk hm (findObj_data hc ha hn ht) (wpAny_call (prop_get (s := { s with toks := s.toks + 1 }) X hp h))
theorem tok_own {v : Value} {attr : Option Value} {es : List DictEntry} {n : Nat} {h₀ : Heap} {L : Addr} {m : Str → Option Value} (F : Fr h₀ L s.heap m) (X₀ : K.In h₀) (I : InstAt s.heap x ox C (some (dictOf es n))) (hga : findIn K (.ref C) "__getattribute__" = some (some (.builtin "tuple.__getattribute__"))) (hk : findIn K (.ref C) "__getattr__" = some none)
    (hm : mroIn K C (.type "tuple") = some true) (hh : hasDictIn K C = true) (ha : findIn K (.ref C) name = some attr) (hn : noGet K attr = true) (hl : getL name es = some (some v)) (hv : handedIn v = true) (h : Q v { s with toks := s.toks + 1 }) :
    wpAny (model prog w) A (getAttr (.ref x) name expr) Q E s :=
  tok_value (X₀.keeps F.keep) I hga hk hm (findObj_own hh ha hn hl) hv h
end
end Mine

end
section
theorem Mine.rst_M5 : True := by (w_top off); first | (walk1; done) | trivial
open PySem PySem.W PyProof.Rows PySem.Calls
set_option maxHeartbeats 4000000
namespace Mine
theorem tupEq2 {prog : Program} {w : World} {A : Around} {s : Shared} {x b : Addr} {ox ob : Obj} {n n2 : Nat} {va vb ua ub : Str} {t1 t2 t3 t4 : Tok}
    (hx : s.heap.get? x = some ox) (hxd : ox.data = .seq #[.str va t1, .str vb t2] n) (hb : s.heap.get? b = some ob) (hbc : ob.cls = .type "tuple") (hbd : ob.data = .seq #[.str ua t3, .str ub t4] n2)
    {Q : Fin → Shared → Prop} (h : Q (.done (.ret (.bool ((va == ua) && (vb == ub))))) s) {E : Value → Shared → Prop} :
    wpAny (model prog w) A (Builtin.«tuple.__eq__» ⟨[.ref x, .ref b], []⟩) Q E s := by
  show wpAny _ _ (isInstance (.ref b) (.type "tuple") >>= _) _ _ s
  have hTb : s.TypeIs (.ref b) "tuple" := ⟨_, hb, hbc⟩
  refine wpAny_bind (wpAny_isInstance hTb isSubtype_tuple_tuple ?_)
  simp only [Bool.not_true, Bool.false_eq_true, if_false]
  refine wpAny_bind (wpAny_tupleItemsOf hx hxd ?_)
  refine wpAny_bind (wpAny_tupleItemsOf hb hbd ?_)
  refine wpAny_bind ?_
  show wpAny _ _ (forIn [(Value.str va t1, Value.str ua t3), (Value.str vb t2, Value.str ub t4)] _ _) _ _ s
  rw [List.forIn_cons]
  refine wpAny_bind (wpAny_bind (eqBool_str ?_))
  cases h1 : va == ua with
  | false =>
    simp only [Bool.not_false, if_true]
    rw [h1] at h
    exact wpAny_bind (wpAny_pure (wpAny_pure (wpAny_pure (wpAny_pure h))))
  | true =>
    simp only [Bool.not_true, Bool.false_eq_true, if_false]
    refine wpAny_pure ?_
    simp only []
    rw [List.forIn_cons]
    refine wpAny_bind (wpAny_bind (eqBool_str ?_))
    rw [h1] at h
    cases h2 : vb == ub with
    | false =>
      simp only [Bool.not_false, if_true]
      rw [h2] at h
      exact wpAny_bind (wpAny_pure (wpAny_pure (wpAny_pure (wpAny_pure h))))
    | true =>
      simp only [Bool.not_true, Bool.false_eq_true, if_false]
      rw [h2] at h
      refine wpAny_pure ?_
      simp only []
      rw [List.forIn_nil]
      refine wpAny_pure ?_
      exact wpAny_pure h

theorem eq_tok {prog : Program} {w : World} {A : Around} {E : Value → Shared → Prop} {s : Shared} {K : Frag} {x C b L : Addr} {h₀ : Heap} {m : Str → Option Value} {ox ob : Obj} {od : Option Obj} {n n2 : Nat} {va vb ua ub : Str} {t1 t2 t3 t4 : Tok} {Q : Value → Shared → Prop}
    (hu : A.units < cLine) (F : Fr h₀ L s.heap m) (X₀ : K.In h₀) (I : InstAt s.heap x ox C od) (hxd : ox.data = .seq #[.str va t1, .str vb t2] n) (hb : s.heap.get? b = some ob) (hbc : ob.cls = .type "tuple") (hbd : ob.data = .seq #[.str ua t3, .str ub t4] n2)
    (hn : notFirst K C (.type "tuple") = true) (hs : findIn K (.ref C) "__eq__" = some (some (.builtin "tuple.__eq__"))) (hm : mroIn K C (.type "tuple") = some true)
    (h : Q (.bool ((va == ua) && (vb == ub))) s) : wpAny (model prog w) A (compareOp .Eq (.ref x) (.ref b)) Q E s := by
  have X := X₀.keeps F.keep
  have hTb : s.TypeIs (.ref b) "tuple" := ⟨_, hb, hbc⟩
  have one : wpAny (model prog w) A (tryCompare (.ref x) (cmpInfo .Eq).2.1 (.ref b)) (fun r s' => ∃ v, r = some v ∧ Q v s') E s := by
    unfold tryCompare
    simp only [callSpecialIfBound?, bindSpecialIfBound?]
    refine wpAny_bind (wpAny_holding (wpAny_bind (wpAny_bind (wpAny_bind (I.type.here ((looks_findIn X hs).here ?_))))))
    have fin : wpAny (model prog w) A (call (.builtin "tuple.__eq__") ([.ref x] ++ [.ref b]) >>= fun v => pure (some v)) (fun r s' => wpAny (model prog w) A (match r with | some .notImplemented | none => pure none | some v => pure (some v)) (fun r s' => ∃ v, r = some v ∧ Q v s') E s') E s := by
      refine wpAny_bind ?_
      refine wpAny_call ?_
      show codeAny _ _ (.call (.builtin "tuple.__eq__") ⟨[.ref x, .ref b], []⟩) _ _
      refine (code_slot PySem.F.slot_tuple_eq.plain PySem.F.entry_tuple_eq kind_eq split_eq (I.type.andThen (looks_mroIn X hm)) (PySem.F.args_tuple_eq_2 (.ref x) (.ref b)) ?_)
      refine tupEq2 I.at_ hxd hb hbc hbd ?_
      refine wpAny_pure (M := model prog w) (E := E) ?_
      exact wpAny_pure (M := model prog w) (E := E) ⟨_, rfl, h⟩
    refine wpAny_bind (wpAny_askSetting (wpAny_ite ?_))
    split
    · exact wpAny_bind ((Looks.of_pure (PySem.F.slot_tuple_eq.bind _)).here (wpAny_pure (by exact fin)))
    · exact wpAny_tryCatch (wpAny_bind ((Looks.of_pure (PySem.F.slot_tuple_eq.bind _)).here (wpAny_pure (by exact fin))))
  refine cmp_ofEq ?_
  unfold richCompare
  simp only [oneThing_ref]
  refine wpAny_holding (wpAny_bind (wpAny_cRoomFor hu ?_))
  refine wpAny_bind (I.type.here (wpAny_bind (wpAny_typeOf hTb ?_)))
  split
  · have e : subIn K (.type "tuple") (.ref C) = some false := by
      rcases Bool.or_eq_true_iff.mp hn with e | e
      · cases beq_iff_eq.mp e
      · exact beq_iff_eq.mp e
    refine wpAny_bind ((looks_subIn X e).here ?_)
    simp only [Bool.false_eq_true, if_false]
    refine wpAny_bind (wpAny_mono one (fun r s' z => ?_) fun _ _ e => e)
    obtain ⟨v, rfl, hq⟩ := z
    exact wpAny_pure hq
  · refine wpAny_bind (wpAny_pure ?_)
    simp only [Bool.false_eq_true, if_false]
    refine wpAny_bind (wpAny_mono one (fun r s' z => ?_) fun _ _ e => e)
    obtain ⟨v, rfl, hq⟩ := z
    exact wpAny_pure hq
theorem news_get {h₀ h : Heap} {L b : Addr} {ob : Obj} {news : List (Addr × Obj)} (N : News h₀ L h news) (hb : (b, ob) ∈ news) : h.get? b = some ob := (N _ hb).1
theorem news_sub {h₀ h : Heap} {L : Addr} {news news' : List (Addr × Obj)} (N : News h₀ L h news) (hs : ∀ p ∈ news', p ∈ news) : News h₀ L h news' := fun p hp => N p (hs p hp)
theorem news_drop1 {h₀ h : Heap} {L : Addr} {p q : Addr × Obj} {r : List (Addr × Obj)} (N : News h₀ L h (p :: q :: r)) : News h₀ L h (p :: r) :=
  news_sub N fun z hz => by rcases List.mem_cons.mp hz with rfl | hz <;> simp [*]
end Mine

end
section
theorem Mine.rst_L1 : True := by (w_top off); first | (walk1; done) | trivial
open PySem PySem.W PySem.W.X PyProof.Rows PySem.Calls
set_option maxHeartbeats 8000000
namespace Mine
abbrev bigA (fr : List Env) (gd : Option (List Code)) : Around := { handled := none, depth := 500, frames := some fr, guards := gd, units := 5000 }
abbrev tokO (C : Addr) (xd : Addr) (va vb : Value) : Obj := ⟨.ref C, some xd, .seq #[va, vb] 0, #[]⟩
structure Cont (P : Prop) : Prop where
  out : P
local macro_rules | `(tactic| x_close) => `(tactic| (rename Cont _ => rr; have r2 := Cont.out rr; first | exact r2 True.intro | exact r2 _ _ _ _ (by assumption) (by k_mem) | exact r2 _ _ _ _ _ (by assumption) (by k_mem) (by k_mem)))

theorem tnew107 {w : World} {s : Shared} {fr : List Env} {gd : Option (List Code)} {E : Value → Shared → Prop} {Q : Value → Shared → Prop} {va vb : Value} {T : Addr} {n : Nat}
    (KX : (hd.heap_39 w.params).In s.heap) (hT : s.heap.get? T = some ⟨.type "tuple", none, .seq #[va, vb] n, #[]⟩)
    (rr : Cont (∀ x xd h' tk' news, Mem s.heap h' [] news → (x, tokO 107 xd va vb) ∈ news → (xd, dictOf [] 0) ∈ news → Q (.ref x) { s with heap := h', toks := tk' })) :
    wpAny (model Challenge.rw_ez0041_01.row.prog w) (bigA fr gd) (call (.builtin "tuple.__new__") [.ref 107, .ref T] []) Q E s := by
  revert KX; k_fill; intro KX
  x_run
theorem tup107 {w : World} {s : Shared} {fr : List Env} {gd : Option (List Code)} {E : Value → Shared → Prop} {Q : Value → Shared → Prop} {va vb : Value} {x xd : Addr}
    (KX : (hd.heap_39 w.params).In s.heap) (hT : s.heap.get? x = some ⟨.ref 107, some xd, .seq #[va, vb] 0, #[]⟩)
    (rr : Cont (∀ x h' tk' news, Mem s.heap h' [] news → (x, (⟨.type "tuple", none, .seq #[va, vb] 0, #[]⟩ : Obj)) ∈ news → Q (.ref x) { s with heap := h', toks := tk' })) :
    wpAny (model Challenge.rw_ez0041_01.row.prog w) (bigA fr gd) (call (.type "tuple") [.ref x] []) Q E s := by
  revert KX; k_fill; intro KX
  x_run

theorem tnew135 {w : World} {s : Shared} {fr : List Env} {gd : Option (List Code)} {E : Value → Shared → Prop} {Q : Value → Shared → Prop} {va vb : Value} {T : Addr} {n : Nat}
    (KX : (hd.heap_39 w.params).In s.heap) (hT : s.heap.get? T = some ⟨.type "tuple", none, .seq #[va, vb] n, #[]⟩)
    (rr : Cont (∀ x xd h' tk' news, Mem s.heap h' [] news → (x, tokO 135 xd va vb) ∈ news → (xd, dictOf [] 0) ∈ news → Q (.ref x) { s with heap := h', toks := tk' })) :
    wpAny (model Challenge.rw_ez0041_01.row.prog w) (bigA fr gd) (call (.builtin "tuple.__new__") [.ref 135, .ref T] []) Q E s := by
  revert KX; k_fill; intro KX
  x_run
theorem tup135 {w : World} {s : Shared} {fr : List Env} {gd : Option (List Code)} {E : Value → Shared → Prop} {Q : Value → Shared → Prop} {va vb : Value} {x xd : Addr}
    (KX : (hd.heap_39 w.params).In s.heap) (hT : s.heap.get? x = some ⟨.ref 135, some xd, .seq #[va, vb] 0, #[]⟩)
    (rr : Cont (∀ x h' tk' news, Mem s.heap h' [] news → (x, (⟨.type "tuple", none, .seq #[va, vb] 0, #[]⟩ : Obj)) ∈ news → Q (.ref x) { s with heap := h', toks := tk' })) :
    wpAny (model Challenge.rw_ez0041_01.row.prog w) (bigA fr gd) (call (.type "tuple") [.ref x] []) Q E s := by
  revert KX; k_fill; intro KX
  x_run

theorem tini107 {w : World} {s : Shared} {fr : List Env} {gd : Option (List Code)} {E : Value → Shared → Prop} {Q : Value → Shared → Prop} {a b c va vb : Value} {x xd : Addr}
    (KX : (hd.heap_39 w.params).In s.heap) (hT : s.heap.get? x = some ⟨.ref 107, some xd, .seq #[va, vb] 0, #[]⟩)
    (rr : Cont (True → Q .none s)) :
    wpAny (model Challenge.rw_ez0041_01.row.prog w) (bigA fr gd) (call (.builtin "object.__init__") [.ref x, a, b, c] []) Q E s := by
  revert KX; k_fill; intro KX
  x_run

theorem tini135 {w : World} {s : Shared} {fr : List Env} {gd : Option (List Code)} {E : Value → Shared → Prop} {Q : Value → Shared → Prop} {a va vb : Value} {x xd : Addr}
    (KX : (hd.heap_39 w.params).In s.heap) (hT : s.heap.get? x = some ⟨.ref 135, some xd, .seq #[va, vb] 0, #[]⟩)
    (rr : Cont (True → Q .none s)) :
    wpAny (model Challenge.rw_ez0041_01.row.prog w) (bigA fr gd) (call (.builtin "object.__init__") [.ref x, a] []) Q E s := by
  revert KX; k_fill; intro KX
  x_run

end Mine

end
section
theorem Mine.rst_L2 : True := by (w_top off); first | (walk1; done) | trivial
open PySem PySem.W PySem.W.X PyProof.Rows PySem.Calls
set_option maxHeartbeats 8000000
namespace Mine

theorem tnew107_N {w : World} {A : Around} {s : Shared} {fr : List Env} {h₀ : Heap} {L : Addr} {m : Str → Option Value} {news : List (Addr × Obj)} {E : Value → Shared → Prop} {Q : Value → Shared → Prop} {va vb : Value} {T : Addr} {n : Nat}
    (hh : A.handled = none) (hdep : A.depth ≤ 500) (hf : A.frames = some fr) (hu : A.units ≤ 5000) (F : Fr h₀ L s.heap m) (X : (hd.heap_39 w.params).In h₀) (N : News h₀ L s.heap news) (hT : (T, (⟨.type "tuple", none, .seq #[va, vb] n, #[]⟩ : Obj)) ∈ news)
    (ret : ∀ x xd h' tk', Fr h₀ L h' m → News h₀ L h' ((x, tokO 107 xd va vb) :: (xd, dictOf [] 0) :: news) → (∀ p ∈ news, p.1 ≠ x) → (∀ p ∈ news, p.1 ≠ xd) → xd ≠ x → Q (.ref x) { s with heap := h', toks := tk' }) :
    wpAny (model Challenge.rw_ez0041_01.row.prog w) A (call (.builtin "tuple.__new__") [.ref 107, .ref T] []) Q E s :=
  wp_le (tnew107 (X.keeps F.keep) (N _ hT).1 ⟨fun x xd h' tk' nw D hx hxd => ret x xd h' tk' (mem_fr F D)
    (mem_news (sel := [(x, tokO 107 xd va vb), (xd, dictOf [] 0)]) F N D (by intro q hq; rcases List.mem_cons.mp hq with rfl | hq; exact hx; rcases List.mem_cons.mp hq with rfl | hq; exact hxd; cases hq)) (mem_off D hx N) (mem_off D hxd N) (mem_two D hxd hx (by intro e; cases e))⟩) hh hdep hf rfl hu
theorem tup107_N {w : World} {A : Around} {s : Shared} {fr : List Env} {h₀ : Heap} {L : Addr} {m : Str → Option Value} {news : List (Addr × Obj)} {E : Value → Shared → Prop} {Q : Value → Shared → Prop} {va vb : Value} {x xd : Addr}
    (hh : A.handled = none) (hdep : A.depth ≤ 500) (hf : A.frames = some fr) (hu : A.units ≤ 5000) (F : Fr h₀ L s.heap m) (X : (hd.heap_39 w.params).In h₀) (N : News h₀ L s.heap news) (hT : (x, tokO 107 xd va vb) ∈ news)
    (ret : ∀ y h' tk', Fr h₀ L h' m → News h₀ L h' ((y, (⟨.type "tuple", none, .seq #[va, vb] 0, #[]⟩ : Obj)) :: news) → (∀ p ∈ news, p.1 ≠ y) → Q (.ref y) { s with heap := h', toks := tk' }) :
    wpAny (model Challenge.rw_ez0041_01.row.prog w) A (call (.type "tuple") [.ref x] []) Q E s :=
  wp_le (tup107 (X.keeps F.keep) (N _ hT).1 ⟨fun y h' tk' nw D hy => ret y h' tk' (mem_fr F D)
    (mem_news (sel := [(y, _)]) F N D (by intro q hq; rcases List.mem_cons.mp hq with rfl | hq; exact hy; cases hq)) (mem_off D hy N)⟩) hh hdep hf rfl hu

theorem tnew135_N {w : World} {A : Around} {s : Shared} {fr : List Env} {h₀ : Heap} {L : Addr} {m : Str → Option Value} {news : List (Addr × Obj)} {E : Value → Shared → Prop} {Q : Value → Shared → Prop} {va vb : Value} {T : Addr} {n : Nat}
    (hh : A.handled = none) (hdep : A.depth ≤ 500) (hf : A.frames = some fr) (hu : A.units ≤ 5000) (F : Fr h₀ L s.heap m) (X : (hd.heap_39 w.params).In h₀) (N : News h₀ L s.heap news) (hT : (T, (⟨.type "tuple", none, .seq #[va, vb] n, #[]⟩ : Obj)) ∈ news)
    (ret : ∀ x xd h' tk', Fr h₀ L h' m → News h₀ L h' ((x, tokO 135 xd va vb) :: (xd, dictOf [] 0) :: news) → (∀ p ∈ news, p.1 ≠ x) → (∀ p ∈ news, p.1 ≠ xd) → xd ≠ x → Q (.ref x) { s with heap := h', toks := tk' }) :
    wpAny (model Challenge.rw_ez0041_01.row.prog w) A (call (.builtin "tuple.__new__") [.ref 135, .ref T] []) Q E s :=
  wp_le (tnew135 (X.keeps F.keep) (N _ hT).1 ⟨fun x xd h' tk' nw D hx hxd => ret x xd h' tk' (mem_fr F D)
    (mem_news (sel := [(x, tokO 135 xd va vb), (xd, dictOf [] 0)]) F N D (by intro q hq; rcases List.mem_cons.mp hq with rfl | hq; exact hx; rcases List.mem_cons.mp hq with rfl | hq; exact hxd; cases hq)) (mem_off D hx N) (mem_off D hxd N) (mem_two D hxd hx (by intro e; cases e))⟩) hh hdep hf rfl hu
theorem tup135_N {w : World} {A : Around} {s : Shared} {fr : List Env} {h₀ : Heap} {L : Addr} {m : Str → Option Value} {news : List (Addr × Obj)} {E : Value → Shared → Prop} {Q : Value → Shared → Prop} {va vb : Value} {x xd : Addr}
    (hh : A.handled = none) (hdep : A.depth ≤ 500) (hf : A.frames = some fr) (hu : A.units ≤ 5000) (F : Fr h₀ L s.heap m) (X : (hd.heap_39 w.params).In h₀) (N : News h₀ L s.heap news) (hT : (x, tokO 135 xd va vb) ∈ news)
    (ret : ∀ y h' tk', Fr h₀ L h' m → News h₀ L h' ((y, (⟨.type "tuple", none, .seq #[va, vb] 0, #[]⟩ : Obj)) :: news) → (∀ p ∈ news, p.1 ≠ y) → Q (.ref y) { s with heap := h', toks := tk' }) :
    wpAny (model Challenge.rw_ez0041_01.row.prog w) A (call (.type "tuple") [.ref x] []) Q E s :=
  wp_le (tup135 (X.keeps F.keep) (N _ hT).1 ⟨fun y h' tk' nw D hy => ret y h' tk' (mem_fr F D)
    (mem_news (sel := [(y, _)]) F N D (by intro q hq; rcases List.mem_cons.mp hq with rfl | hq; exact hy; cases hq)) (mem_off D hy N)⟩) hh hdep hf rfl hu

theorem tini107_N {w : World} {A : Around} {s : Shared} {fr : List Env} {h₀ : Heap} {L : Addr} {m : Str → Option Value} {news : List (Addr × Obj)} {E : Value → Shared → Prop} {Q : Option Value → Shared → Prop} {a b c va vb : Value} {x xd : Addr} {od : Obj}
    (hh : A.handled = none) (hdep : A.depth ≤ 500) (hf : A.frames = some fr) (hu : A.units ≤ 5000) (F : Fr h₀ L s.heap m) (X : (hd.heap_39 w.params).In h₀) (N : News h₀ L s.heap news) (hT : (x, tokO 107 xd va vb) ∈ news) (hD : (xd, od) ∈ news)
    (h1 : findIn (hd.heap_39 w.params) (.ref 107) "__init__" = some (some (.builtin "object.__init__")))
    (ret : Q (some .none) s) :
    wpAny (model Challenge.rw_ez0041_01.row.prog w) A (callSpecial? (.ref x) "__init__" [a, b, c] []) Q E s :=
  kfo_special (X.keeps F.keep) (od := some od) (ox := tokO 107 xd va vb) ⟨(N _ hT).1, rfl, rfl, (N _ hD).1⟩ h1 oi_bind
    (wp_le (tini107 (Q := fun v => Q (some v)) (X.keeps F.keep) (N _ hT).1 ⟨fun _ => ret⟩) hh hdep hf rfl hu)

theorem tini135_N {w : World} {A : Around} {s : Shared} {fr : List Env} {h₀ : Heap} {L : Addr} {m : Str → Option Value} {news : List (Addr × Obj)} {E : Value → Shared → Prop} {Q : Option Value → Shared → Prop} {a va vb : Value} {x xd : Addr} {od : Obj}
    (hh : A.handled = none) (hdep : A.depth ≤ 500) (hf : A.frames = some fr) (hu : A.units ≤ 5000) (F : Fr h₀ L s.heap m) (X : (hd.heap_39 w.params).In h₀) (N : News h₀ L s.heap news) (hT : (x, tokO 135 xd va vb) ∈ news) (hD : (xd, od) ∈ news)
    (h1 : findIn (hd.heap_39 w.params) (.ref 135) "__init__" = some (some (.builtin "object.__init__")))
    (ret : Q (some .none) s) :
    wpAny (model Challenge.rw_ez0041_01.row.prog w) A (callSpecial? (.ref x) "__init__" [a] []) Q E s :=
  kfo_special (X.keeps F.keep) (od := some od) (ox := tokO 135 xd va vb) ⟨(N _ hT).1, rfl, rfl, (N _ hD).1⟩ h1 oi_bind
    (wp_le (tini135 (Q := fun v => Q (some v)) (X.keeps F.keep) (N _ hT).1 ⟨fun _ => ret⟩) hh hdep hf rfl hu)

end Mine

end
section
theorem Mine.rst_C1 : True := by (w_top off); first | (walk1; done) | trivial
open PySem PySem.W PyProof.Rows PySem.Calls
set_option maxHeartbeats 8000000
namespace Mine

abbrev sDict (h1 h2 h3 h4 h5 : Int) (t1 t2 t3 t4 t5 : Tok) (U IT : Addr) (pv : Value) (pk : Bool) : Obj :=
  dictOf [⟨h1, .str (Str.ofString "used") t1, .ref U⟩, ⟨h2, .str (Str.ofString "tokens") t2, .ref IT⟩, ⟨h3, .str (Str.ofString "source") t3, .none⟩, ⟨h4, .str (Str.ofString "peeked") t4, pv⟩, ⟨h5, .str (Str.ofString "_peeking") t5, .bool pk⟩] 5

local macro_rules | `(tactic| k_mem) => `(tactic| assumption)
local macro_rules | `(tactic| k_all) => `(tactic| assumption)
local macro_rules | `(tactic| k_ne) => `(tactic| assumption)
local macro_rules | `(tactic| walk_at "call builtin:next") => `(tactic| (k_here; (with_reducible show wpAny _ _ (call (Value.builtin "next") [Value.ref _]) _ _ _); k_dflt ((refine' next_li ?F ?N ?U ?i ?p ?c ?d ?x ?_; (case F => k_asm); (case N => k_asm); (case U => k_updF); (case i => k_asm); (case p => k_mem); (case c => rfl); (case d => rfl); (case x => assumption); intro h' o' F' N' hi')); (try dsimp only at N')))

local macro_rules | `(tactic| walk_at "ite") => `(tactic| (k_closed; first | (with_reducible refine my_iteT (by with_unfolding_all rfl) ?_) | (with_reducible refine my_iteF (by with_unfolding_all rfl) ?_)))

theorem nt_ct {w : World} {p : Program} {loose : List Str} {mean : ExcName → Option Value} {mg mb : Str → Option Value}
    {dp un : Nat} {gd : Option (List Code)} {cn : Str} {cs : Scope} {a : Addr} {ccd : Value} {cl : List (Str × Addr)} {outer : List Env} {A₀ : Around} {base h₀ : Heap} {L : Addr} {m : Str → Option Value} {s : Shared} {Q E : Value → Shared → Prop}
    {S Sd U IT TL : Addr} {h1 h2 h3 h4 h5 : Int} {t1 t2 t3 t4 t5 : Tok} {pv : Value} {pk : Bool} {io : Obj} {i : Nat} {items : Array Value} {tn : Nat} {us : Array Value} {un' : Nat} {ta : Addr} {rest : List (Addr × Obj)}
    (B : Below A₀ base outer h₀) (F : Fr h₀ L s.heap m) (X : (hd.heap_39 w.params).In h₀) (T : Top p loose mean mg mb h₀) (hk : cs.kind = .function)
    (hdp : dp + 2 < recursionLimit) (hun : un + 16 < cLine)
    (N : News h₀ L s.heap ((IT, io) :: (U, listOf us un') :: (Sd, sDict h1 h2 h3 h4 h5 t1 t2 t3 t4 t5 U IT pv pk) :: (S, instObj 198 Sd) :: rest))
    (hi : LI io TL i) (hTL : (TL, listOf items tn) ∈ rest) (hx : items[i]? = some (.ref ta)) (o1 : U ≠ IT) (o2 : Sd ≠ IT) (o3 : S ≠ IT) (o4 : ∀ p ∈ rest, p.1 ≠ IT) (o5 : Sd ≠ U) (o6 : S ≠ U) (o7 : ∀ p ∈ rest, p.1 ≠ U) (o8 : S ≠ Sd) (o9 : ∀ p ∈ rest, p.1 ≠ Sd) (oa : IT ≠ U) (ob : IT ≠ Sd) (oc : U ≠ Sd)
    (ret : ∀ (io' : Obj) h' tk', Fr h₀ L h' m → News h₀ L h' ((IT, io') :: (U, listOf us un') :: (Sd, sDict h1 h2 h3 h4 h5 t1 t2 t3 t4 t5 U IT pv pk) :: (S, instObj 198 Sd) :: rest) → LI io' TL (i + 1) → Q (.ref ta) { s with heap := h', toks := tk' }) :
    wpAny (model Challenge.rw_ez0041_01.row.prog w) (ktrTop dp un gd cn cs L a ccd cl outer) (call (.ref 160) [.ref S]) Q E s := by
  revert X; k_fill; intro X
  refine wpAny_call ?_
  k_dflt cell_enter
  repeat (first | (k_unfold; (try dsimp only)) | (k_end; wrow_close) | walk1 | (dsimp only; walk1) | (leave1; walk_say "STEP leave1"; try dsimp only))
  exact ret _ _ _ (by assumption) (by assumption) (by assumption)

local macro_rules | `(tactic| walk_at "call ref") => `(tactic| (k_here; k_dflt ((show wpAny _ _ (call (Value.ref 160) [Value.ref _]) _ _ _); (refine' nt_ct (cl := []) ?B ?F ?X ?T ?k ?d ?u ?N ?i ?l ?x ?o1 ?o2 ?o3 ?o4 ?o5 ?o6 ?o7 ?o8 ?o9 ?oa ?ob ?oc ?_; (case B => k_asm); (case F => k_asm); (case X => k_asm); (case T => k_asm); (case k => rfl); (case d => ktr_room); (case u => ktr_units); (case N => k_asm); (case i => k_asm); (case l => k_mem); (case x => assumption); (all_goals (try assumption)); intro io' h' tk' F' N' hi')); (try dsimp only)))

theorem peekF_ct {w : World} {p : Program} {loose : List Str} {mean : ExcName → Option Value} {mg mb : Str → Option Value}
    {dp un : Nat} {gd : Option (List Code)} {cn : Str} {cs : Scope} {a : Addr} {ccd : Value} {cl : List (Str × Addr)} {outer : List Env} {A₀ : Around} {base h₀ : Heap} {L : Addr} {m : Str → Option Value} {s : Shared} {Q E : Value → Shared → Prop}
    {S Sd U IT TL : Addr} {h1 h2 h3 h4 h5 : Int} {t1 t2 t3 t4 t5 : Tok} {pv : Value} {pk : Bool} {io : Obj} {i : Nat} {items : Array Value} {tn : Nat} {us : Array Value} {un' : Nat} {ta : Addr} {rest : List (Addr × Obj)}
    (B : Below A₀ base outer h₀) (F : Fr h₀ L s.heap m) (X : (hd.heap_39 w.params).In h₀) (T : Top p loose mean mg mb h₀) (hk : cs.kind = .function)
    (hdp : dp + 4 < recursionLimit) (hun : un + 40 < cLine)
    (N : News h₀ L s.heap ((IT, io) :: (U, listOf us un') :: (Sd, sDict h1 h2 h3 h4 h5 t1 t2 t3 t4 t5 U IT pv false) :: (S, instObj 198 Sd) :: rest))
    (hi : LI io TL i) (hTL : (TL, listOf items tn) ∈ rest) (hx : items[i]? = some (.ref ta)) (o1 : U ≠ IT) (o2 : Sd ≠ IT) (o3 : S ≠ IT) (o4 : ∀ p ∈ rest, p.1 ≠ IT) (o5 : Sd ≠ U) (o6 : S ≠ U) (o7 : ∀ p ∈ rest, p.1 ≠ U) (o8 : S ≠ Sd) (o9 : ∀ p ∈ rest, p.1 ≠ Sd) (oa : IT ≠ U) (ob : IT ≠ Sd) (oc : U ≠ Sd)
    (ret : ∀ (io' : Obj) h' tk', Fr h₀ L h' m → News h₀ L h' ((IT, io') :: (U, listOf us un') :: (Sd, sDict h1 h2 h3 h4 h5 t1 t2 t3 t4 t5 U IT (.ref ta) true) :: (S, instObj 198 Sd) :: rest) → LI io' TL (i + 1) → Q (.ref ta) { s with heap := h', toks := tk' }) :
    wpAny (model Challenge.rw_ez0041_01.row.prog w) (ktrTop dp un gd cn cs L a ccd cl outer) (call (.ref 174) [.ref S]) Q E s := by
  revert X; k_fill; intro X
  refine wpAny_call ?_
  k_dflt cell_enter
  repeat' (first | (k_end; exact ret _ _ _ (by assumption) (by assumption) (by assumption)) | (k_unfold; (try dsimp only)) | walk1 | (dsimp only; walk1) | (leave1; walk_say "STEP leave1"; try dsimp only))
  skip

theorem peekT_ct {w : World} {p : Program} {loose : List Str} {mean : ExcName → Option Value} {mg mb : Str → Option Value}
    {dp un : Nat} {gd : Option (List Code)} {cn : Str} {cs : Scope} {a : Addr} {ccd : Value} {cl : List (Str × Addr)} {outer : List Env} {A₀ : Around} {base h₀ : Heap} {L : Addr} {m : Str → Option Value} {s : Shared} {Q E : Value → Shared → Prop}
    {S Sd U IT TL : Addr} {h1 h2 h3 h4 h5 : Int} {t1 t2 t3 t4 t5 : Tok} {pv : Value} {pk : Bool} {io : Obj} {i : Nat} {items : Array Value} {tn : Nat} {us : Array Value} {un' : Nat} {ta : Addr} {rest : List (Addr × Obj)}
    (B : Below A₀ base outer h₀) (F : Fr h₀ L s.heap m) (X : (hd.heap_39 w.params).In h₀) (T : Top p loose mean mg mb h₀) (hk : cs.kind = .function)
    (hdp : dp + 4 < recursionLimit) (hun : un + 40 < cLine)
    (N : News h₀ L s.heap ((IT, io) :: (U, listOf us un') :: (Sd, sDict h1 h2 h3 h4 h5 t1 t2 t3 t4 t5 U IT (.ref ta) true) :: (S, instObj 198 Sd) :: rest))
    (hi : LI io TL i) (hTL : (TL, listOf items tn) ∈ rest)  (o1 : U ≠ IT) (o2 : Sd ≠ IT) (o3 : S ≠ IT) (o4 : ∀ p ∈ rest, p.1 ≠ IT) (o5 : Sd ≠ U) (o6 : S ≠ U) (o7 : ∀ p ∈ rest, p.1 ≠ U) (o8 : S ≠ Sd) (o9 : ∀ p ∈ rest, p.1 ≠ Sd) (oa : IT ≠ U) (ob : IT ≠ Sd) (oc : U ≠ Sd)
    (ret : ∀ h' tk', Fr h₀ L h' m → News h₀ L h' ((IT, io) :: (U, listOf us un') :: (Sd, sDict h1 h2 h3 h4 h5 t1 t2 t3 t4 t5 U IT (.ref ta) true) :: (S, instObj 198 Sd) :: rest) → Q (.ref ta) { s with heap := h', toks := tk' }) :
    wpAny (model Challenge.rw_ez0041_01.row.prog w) (ktrTop dp un gd cn cs L a ccd cl outer) (call (.ref 174) [.ref S]) Q E s := by
  revert X; k_fill; intro X
  refine wpAny_call ?_
  k_dflt cell_enter
  repeat' (first | (k_end; exact ret _ _ (by assumption) (by assumption)) | (k_unfold; (try dsimp only)) | walk1 | (dsimp only; walk1) | (leave1; walk_say "STEP leave1"; try dsimp only))
  skip

theorem nextF_ct {w : World} {p : Program} {loose : List Str} {mean : ExcName → Option Value} {mg mb : Str → Option Value}
    {dp un : Nat} {gd : Option (List Code)} {cn : Str} {cs : Scope} {a : Addr} {ccd : Value} {cl : List (Str × Addr)} {outer : List Env} {A₀ : Around} {base h₀ : Heap} {L : Addr} {m : Str → Option Value} {s : Shared} {Q E : Value → Shared → Prop}
    {S Sd U IT TL : Addr} {h1 h2 h3 h4 h5 : Int} {t1 t2 t3 t4 t5 : Tok} {pv : Value} {pk : Bool} {io : Obj} {i : Nat} {items : Array Value} {tn : Nat} {us : Array Value} {un' : Nat} {ta : Addr} {rest : List (Addr × Obj)}
    (B : Below A₀ base outer h₀) (F : Fr h₀ L s.heap m) (X : (hd.heap_39 w.params).In h₀) (T : Top p loose mean mg mb h₀) (hk : cs.kind = .function)
    (hdp : dp + 4 < recursionLimit) (hun : un + 40 < cLine)
    (N : News h₀ L s.heap ((IT, io) :: (U, listOf us un') :: (Sd, sDict h1 h2 h3 h4 h5 t1 t2 t3 t4 t5 U IT pv false) :: (S, instObj 198 Sd) :: rest))
    (hi : LI io TL i) (hTL : (TL, listOf items tn) ∈ rest) (hx : items[i]? = some (.ref ta)) (hus : us.size ≤ 100) (o1 : U ≠ IT) (o2 : Sd ≠ IT) (o3 : S ≠ IT) (o4 : ∀ p ∈ rest, p.1 ≠ IT) (o5 : Sd ≠ U) (o6 : S ≠ U) (o7 : ∀ p ∈ rest, p.1 ≠ U) (o8 : S ≠ Sd) (o9 : ∀ p ∈ rest, p.1 ≠ Sd) (oa : IT ≠ U) (ob : IT ≠ Sd) (oc : U ≠ Sd)
    (ret : ∀ (io' : Obj) h' tk', Fr h₀ L h' m → News h₀ L h' ((IT, io') :: (U, listOf (us.push (.ref ta)) (un' + 1)) :: (Sd, sDict h1 h2 h3 h4 h5 t1 t2 t3 t4 t5 U IT pv false) :: (S, instObj 198 Sd) :: rest) → LI io' TL (i + 1) → Q (.ref ta) { s with heap := h', toks := tk' }) :
    wpAny (model Challenge.rw_ez0041_01.row.prog w) (ktrTop dp un gd cn cs L a ccd cl outer) (call (.ref 167) [.ref S]) Q E s := by
  revert X; k_fill; intro X
  refine wpAny_call ?_
  k_dflt cell_enter
  repeat' (first | (k_end; exact ret _ _ _ (by assumption) (by assumption) (by assumption)) | (k_unfold; (try dsimp only)) | walk1 | (dsimp only; walk1) | (leave1; walk_say "STEP leave1"; try dsimp only))
  skip

theorem nextT_ct {w : World} {p : Program} {loose : List Str} {mean : ExcName → Option Value} {mg mb : Str → Option Value}
    {dp un : Nat} {gd : Option (List Code)} {cn : Str} {cs : Scope} {a : Addr} {ccd : Value} {cl : List (Str × Addr)} {outer : List Env} {A₀ : Around} {base h₀ : Heap} {L : Addr} {m : Str → Option Value} {s : Shared} {Q E : Value → Shared → Prop}
    {S Sd U IT TL : Addr} {h1 h2 h3 h4 h5 : Int} {t1 t2 t3 t4 t5 : Tok} {pv : Value} {pk : Bool} {io : Obj} {i : Nat} {items : Array Value} {tn : Nat} {us : Array Value} {un' : Nat} {ta : Addr} {rest : List (Addr × Obj)}
    (B : Below A₀ base outer h₀) (F : Fr h₀ L s.heap m) (X : (hd.heap_39 w.params).In h₀) (T : Top p loose mean mg mb h₀) (hk : cs.kind = .function)
    (hdp : dp + 4 < recursionLimit) (hun : un + 40 < cLine)
    (N : News h₀ L s.heap ((IT, io) :: (U, listOf us un') :: (Sd, sDict h1 h2 h3 h4 h5 t1 t2 t3 t4 t5 U IT (.ref ta) true) :: (S, instObj 198 Sd) :: rest))
    (hi : LI io TL i) (hTL : (TL, listOf items tn) ∈ rest) (hus : us.size ≤ 100) (o1 : U ≠ IT) (o2 : Sd ≠ IT) (o3 : S ≠ IT) (o4 : ∀ p ∈ rest, p.1 ≠ IT) (o5 : Sd ≠ U) (o6 : S ≠ U) (o7 : ∀ p ∈ rest, p.1 ≠ U) (o8 : S ≠ Sd) (o9 : ∀ p ∈ rest, p.1 ≠ Sd) (oa : IT ≠ U) (ob : IT ≠ Sd) (oc : U ≠ Sd)
    (ret : ∀ h' tk', Fr h₀ L h' m → News h₀ L h' ((IT, io) :: (U, listOf (us.push (.ref ta)) (un' + 1)) :: (Sd, sDict h1 h2 h3 h4 h5 t1 t2 t3 t4 t5 U IT (.ref ta) false) :: (S, instObj 198 Sd) :: rest) → Q (.ref ta) { s with heap := h', toks := tk' }) :
    wpAny (model Challenge.rw_ez0041_01.row.prog w) (ktrTop dp un gd cn cs L a ccd cl outer) (call (.ref 167) [.ref S]) Q E s := by
  revert X; k_fill; intro X
  refine wpAny_call ?_
  k_dflt cell_enter
  repeat' (first | (k_end; exact ret _ _ (by assumption) (by assumption)) | (k_unfold; (try dsimp only)) | walk1 | (dsimp only; walk1) | (leave1; walk_say "STEP leave1"; try dsimp only))
  skip

end Mine

end
section
theorem Mine.rst_C2 : True := by (w_top off); first | (walk1; done) | trivial
open PySem PySem.W PyProof.Rows PySem.Calls
set_option maxHeartbeats 8000000
namespace Mine
def At (items : Array Value) (i spot : Nat) (pk : Bool) (pv : Value) : Prop := match pk with
  | true => i = spot + 1 ∧ items[spot]? = some pv
  | false => i = spot

theorem peek_ct {w : World} {p : Program} {loose : List Str} {mean : ExcName → Option Value} {mg mb : Str → Option Value}
    {dp un : Nat} {gd : Option (List Code)} {cn : Str} {cs : Scope} {a : Addr} {ccd : Value} {cl : List (Str × Addr)} {outer : List Env} {A₀ : Around} {base h₀ : Heap} {L : Addr} {m : Str → Option Value} {s : Shared} {Q E : Value → Shared → Prop}
    {S Sd U IT TL : Addr} {h1 h2 h3 h4 h5 : Int} {t1 t2 t3 t4 t5 : Tok} {pv : Value} {pk : Bool} {io : Obj} {i : Nat} {items : Array Value} {tn : Nat} {us : Array Value} {un' : Nat} {ta : Addr} {rest : List (Addr × Obj)}
    (B : Below A₀ base outer h₀) (F : Fr h₀ L s.heap m) (X : (hd.heap_39 w.params).In h₀) (T : Top p loose mean mg mb h₀) (hk : cs.kind = .function)
    (hdp : dp + 4 < recursionLimit) (hun : un + 40 < cLine)
    (N : News h₀ L s.heap ((IT, io) :: (U, listOf us un') :: (Sd, sDict h1 h2 h3 h4 h5 t1 t2 t3 t4 t5 U IT pv pk) :: (S, instObj 198 Sd) :: rest))
    (hi : LI io TL i) (hTL : (TL, listOf items tn) ∈ rest) {spot : Nat} (hat : At items i spot pk pv) (hx : items[spot]? = some (.ref ta))  (o1 : U ≠ IT) (o2 : Sd ≠ IT) (o3 : S ≠ IT) (o4 : ∀ p ∈ rest, p.1 ≠ IT) (o5 : Sd ≠ U) (o6 : S ≠ U) (o7 : ∀ p ∈ rest, p.1 ≠ U) (o8 : S ≠ Sd) (o9 : ∀ p ∈ rest, p.1 ≠ Sd) (oa : IT ≠ U) (ob : IT ≠ Sd) (oc : U ≠ Sd)
    (ret : ∀ (io' : Obj) h' tk', Fr h₀ L h' m → News h₀ L h' ((IT, io') :: (U, listOf us un') :: (Sd, sDict h1 h2 h3 h4 h5 t1 t2 t3 t4 t5 U IT (.ref ta) true) :: (S, instObj 198 Sd) :: rest) → LI io' TL (spot + 1) → Q (.ref ta) { s with heap := h', toks := tk' }) :
    wpAny (model Challenge.rw_ez0041_01.row.prog w) (ktrTop dp un gd cn cs L a ccd cl outer) (call (.ref 174) [.ref S]) Q E s := by
  cases pk with
  | true =>
    obtain ⟨rfl, hp⟩ := hat
    rw [hx] at hp
    cases hp
    exact peekT_ct (pk := true) (pv := .none) B F X T hk hdp hun N hi hTL o1 o2 o3 o4 o5 o6 o7 o8 o9 oa ob oc (fun h' tk' F' N' => ret _ _ _ F' N' hi)
  | false =>
    cases hat
    exact peekF_ct (pk := true) B F X T hk hdp hun N hi hTL hx o1 o2 o3 o4 o5 o6 o7 o8 o9 oa ob oc (fun io' h' tk' F' N' l => ret _ _ _ F' N' l)

theorem next_ct {w : World} {p : Program} {loose : List Str} {mean : ExcName → Option Value} {mg mb : Str → Option Value}
    {dp un : Nat} {gd : Option (List Code)} {cn : Str} {cs : Scope} {a : Addr} {ccd : Value} {cl : List (Str × Addr)} {outer : List Env} {A₀ : Around} {base h₀ : Heap} {L : Addr} {m : Str → Option Value} {s : Shared} {Q E : Value → Shared → Prop}
    {S Sd U IT TL : Addr} {h1 h2 h3 h4 h5 : Int} {t1 t2 t3 t4 t5 : Tok} {pv : Value} {pk : Bool} {io : Obj} {i : Nat} {items : Array Value} {tn : Nat} {us : Array Value} {un' : Nat} {ta : Addr} {rest : List (Addr × Obj)}
    (B : Below A₀ base outer h₀) (F : Fr h₀ L s.heap m) (X : (hd.heap_39 w.params).In h₀) (T : Top p loose mean mg mb h₀) (hk : cs.kind = .function)
    (hdp : dp + 4 < recursionLimit) (hun : un + 40 < cLine)
    (N : News h₀ L s.heap ((IT, io) :: (U, listOf us un') :: (Sd, sDict h1 h2 h3 h4 h5 t1 t2 t3 t4 t5 U IT pv pk) :: (S, instObj 198 Sd) :: rest))
    (hi : LI io TL i) (hTL : (TL, listOf items tn) ∈ rest) {spot : Nat} (hat : At items i spot pk pv) (hx : items[spot]? = some (.ref ta)) (hus : us.size ≤ 100) (o1 : U ≠ IT) (o2 : Sd ≠ IT) (o3 : S ≠ IT) (o4 : ∀ p ∈ rest, p.1 ≠ IT) (o5 : Sd ≠ U) (o6 : S ≠ U) (o7 : ∀ p ∈ rest, p.1 ≠ U) (o8 : S ≠ Sd) (o9 : ∀ p ∈ rest, p.1 ≠ Sd) (oa : IT ≠ U) (ob : IT ≠ Sd) (oc : U ≠ Sd)
    (ret : ∀ (io' : Obj) pv' h' tk', Fr h₀ L h' m → News h₀ L h' ((IT, io') :: (U, listOf (us.push (.ref ta)) (un' + 1)) :: (Sd, sDict h1 h2 h3 h4 h5 t1 t2 t3 t4 t5 U IT pv' false) :: (S, instObj 198 Sd) :: rest) → LI io' TL (spot + 1) → Q (.ref ta) { s with heap := h', toks := tk' }) :
    wpAny (model Challenge.rw_ez0041_01.row.prog w) (ktrTop dp un gd cn cs L a ccd cl outer) (call (.ref 167) [.ref S]) Q E s := by
  cases pk with
  | true =>
    obtain ⟨rfl, hp⟩ := hat
    rw [hx] at hp
    cases hp
    exact nextT_ct (pk := true) (pv := .none) B F X T hk hdp hun N hi hTL hus o1 o2 o3 o4 o5 o6 o7 o8 o9 oa ob oc (fun h' tk' F' N' => ret _ _ _ _ F' N' hi)
  | false =>
    cases hat
    exact nextF_ct (pk := true) B F X T hk hdp hun N hi hTL hx hus o1 o2 o3 o4 o5 o6 o7 o8 o9 oa ob oc (fun io' h' tk' F' N' l => ret _ _ _ _ F' N' l)

end Mine

end
section
theorem Mine.rst_T1 : True := by (w_top off); first | (walk1; done) | trivial
open PySem PySem.W PyProof.Rows PySem.Calls
set_option maxHeartbeats 8000000
namespace Mine

theorem instAt_seq {h₀ h : Heap} {L x C dx : Addr} {news : List (Addr × Obj)} {od : Obj} {its : Array Value} {n : Nat} {sl : Array (Option Value)} (N : News h₀ L h news) (h1 : (x, (⟨.ref C, some dx, .seq its n, sl⟩ : Obj)) ∈ news) (h2 : (dx, od) ∈ news) :
    InstAt h x ⟨.ref C, some dx, .seq its n, sl⟩ C (some od) := ⟨(N _ h1).1, rfl, rfl, (N _ h2).1⟩

theorem off_tail {q : Addr × Obj} {l : List (Addr × Obj)} {a : Addr} (h : ∀ p ∈ q :: l, p.1 ≠ a) : ∀ p ∈ l, p.1 ≠ a := fun p hp => h p (.tail _ hp)

theorem make_TK {prog : Program} {w : World} {A : Around} {K : Frag} {C fN p : Addr} {s : Shared} {h₀ : Heap} {L : Addr} {m : Str → Option Value} {args : List Value} {oc mc : Value} {od : Option Addr} {cd : ClassData} {sl : Array (Option Value)} {c0 : Value} {cs rest' : List Value}
    {Q : Value → Shared → Prop} {E : Value → Shared → Prop}
    (F : Fr h₀ L s.heap m) (X₀ : K.In h₀) (hC : K.lookup C = some ⟨oc, od, .cls cd, sl⟩) (hm : cd.mro = c0 :: cs) (hc : specialIn K (.ref C) "__call__" = some (some (.builtin "type.__call__")))
    (ht : instIn K (.ref C) (.type "type") = some true) (hmade : peek K ⟨(model prog w).prog, (model prog w).w.params⟩ (Bind.madeBy (.ref C)) = some none)
    (hmc : typeIn K (.ref C) = some mc) (hr : readsIn K C mc = true) (e : findCls K (.ref C) mc "__new__" = some (.get (.builtin "staticmethod.__get__") (.ref p) .none (.ref C))) (hp : recIn K p "staticmethod" = some (.ref fN :: rest'))
    (h : wpAny (model prog w) (A.under (.builtin "type.__call__" ⟨.ref C :: args, []⟩)) (PySem.call (.ref fN) (.ref C :: args) [])
      (fun obj s₂ => Looks (model prog w) s₂.heap (isInstance obj (.ref C)) true ∧ wpAny (model prog w) (A.under (.builtin "type.__call__" ⟨.ref C :: args, []⟩)) (callSpecial? obj "__init__" args []) (fun r s₃ => r = some .none ∧ Q obj s₃) E s₂) E { s with toks := s.toks + 1 }) :
    wpAny (model prog w) A (PySem.call (.ref C) args []) Q E s := by
  have X := X₀.keeps F.keep
  obtain ⟨hh, g, d, t, os⟩ := s
  have hcls : clsIn K C = some cd := by unfold clsIn; rw [hC]
  have mro : Looks (model prog w) hh (mroOf (.ref C)) (c0 :: cs) := hm ▸ ((looks_clsIn X hcls).andThen .now)
  refine make_T (X _ _ hC) (looks_specialIn X hc) (looks_instIn X ht) mro (Looks.of_peek X hmade) ?_
  exact cls_sm (s := ⟨hh, g, d, t, os⟩) F X₀ hmc hr e hp rfl h

local macro_rules | `(tactic| k_mem) => `(tactic| assumption)
local macro_rules | `(tactic| k_all) => `(tactic| assumption)
local macro_rules | `(tactic| k_ne) => `(tactic| first | assumption | exact Ne.symm (by assumption))
local macro_rules | `(tactic| k_inst) => `(tactic| (refine' instAt_seq ?N ?h1 ?h2; (case N => k_asm); (case h1 => k_mem); (case h2 => k_mem)))

local macro_rules | `(tactic| walk_at "getMethod type:tuple") => `(tactic| (k_here; refine' method_type ?F ?X ?m (by decide +kernel) ?e ?h ?_; (case F => k_asm); (case X => k_asm); (case m => kernel_rfl); (case e => k_dflt k_is); (case h => k_handed)))
local macro_rules | `(tactic| walk_at "my_depth") => `(tactic| ((try simp only [depth_under_make, depth_under_kw, depth_in1, depth_deeper, depth_caller]); (try dsimp only [ktrTop]); omega))
local macro_rules | `(tactic| walk_at "my_units") => `(tactic| ((try simp only [units_under_make, units_in1, units_deeper, Around.mark_units, units_caller]); (try dsimp only [ktrTop]); omega))
local macro_rules | `(tactic| walk_at "call builtin:tuple.__new__") => `(tactic| (k_here; k_dflt ((first | refine' tnew107_N ?h ?d ?f ?u ?F ?X ?N ?T ?_ | refine' tnew135_N ?h ?d ?f ?u ?F ?X ?N ?T ?_); (case h => rfl); (case d => walk_at "my_depth"); (case f => rfl); (case u => walk_at "my_units"); (case F => k_asm); (case X => k_asm); (case N => k_asm); (case T => k_mem); intro x' xd' h' tk' F' N' n1 n2 n3)))
local macro_rules | `(tactic| walk_at "setAttr ref") => `(tactic| (k_here; k_dflt (refine' set_tok ?k1 ?k2 ?k3 ?k4 ?k5 ?k6 ?k7 ?k8 ?k9 ?k10 ?kt ?k11 ?k12 ?k13 ?k14 ?_; (case k1 => k_asm); (case k2 => k_asm); (case k3 => k_asm); (case k4 => k_inst); (case k5 => exact rfl); (case k6 => k_is); (case k7 => k_is); (case k8 => rfl); (case k9 => kernel_rfl); (case k10 => k_is); (case kt => k_is); (case k11 => k_get); (case k12 => k_put); (case k13 => k_upd); (case k14 => exact Nat.le_of_ble_eq_true rfl); intro h' F' N')))
theorem token_ct {w : World} {p : Program} {loose : List Str} {mean : ExcName → Option Value} {mg mb : Str → Option Value}
    {dp un : Nat} {gd : Option (List Code)} {cn : Str} {cs : Scope} {a : Addr} {ccd : Value} {cl : List (Str × Addr)} {outer : List Env} {A₀ : Around} {base h₀ : Heap} {L : Addr} {m : Str → Option Value} {s : Shared} {Q E : Value → Shared → Prop}
    {va vb vk : Value} {news : List (Addr × Obj)}
    (B : Below A₀ base outer h₀) (F : Fr h₀ L s.heap m) (X : (hd.heap_39 w.params).In h₀) (T : Top p loose mean mg mb h₀) (hk : cs.kind = .function)
    (hdp : dp + 4 < 400) (hun : un + 40 < 4000)
    (N : News h₀ L s.heap news)
    (ret : ∀ x xd (hp : Int) tp h' tk', Fr h₀ L h' m → News h₀ L h' ((x, tokO 107 xd va vb) :: (xd, dictOf [⟨hp, .str (Str.ofString "pos") tp, vk⟩] 1) :: news) → (∀ p ∈ news, p.1 ≠ x) → (∀ p ∈ news, p.1 ≠ xd) → xd ≠ x → Q (.ref x) { s with heap := h', toks := tk' }) :
    wpAny (model Challenge.rw_ez0041_01.row.prog w) (ktrTop dp un gd cn cs L a ccd cl outer) (call (.ref 107) [va, vb, vk]) Q E s := by
  revert X; k_fill; intro X
  refine make_TK F X (by k_is) rfl (by k_is) (by k_is) (by kernel_rfl) (by k_is) (by k_is) (by k_is) (by k_is) ?_
  refine wpAny_call ?_
  k_dflt cell_enter
  repeat' (first | (k_unfold; (try dsimp only)) | walk1 | (dsimp only; walk1) | (leave1; walk_say "STEP leave1"; try dsimp only))
  all_goals ((rename Fr h₀ L _ _ => kF); (rename News h₀ L _ _ => kN); have XX := X.keeps kF.keep)
  · exact (instAt_seq kN (List.Mem.head _) (List.Mem.tail _ (List.Mem.head _))).type.andThen (looks_mroIn XX (by k_is))
  · k_dflt (refine' tini107_N ?h ?d ?f ?u kF X kN (List.Mem.head _) (List.Mem.tail _ (List.Mem.head _)) ?i ⟨rfl, ?r⟩)
    (case h => rfl)
    (case d => walk_at "my_depth")
    (case f => rfl)
    (case u => walk_at "my_units")
    (case i => k_is)
    (case r => exact ret _ _ _ _ _ _ kF (cb_drop kN (by kcf_all)) (off_tail (by assumption)) (off_tail (by assumption)) (by assumption))

local macro_rules | `(tactic| walk_at "my_enter") => `(tactic| (refine' code_def ?k1 ?k2 ?k3 ?k4 ?k5 ?kA ?kF ?kK ?k6 ?k7 ?k8 ?k9 ?kB ?_ ?c2 ?c3 ?c4 ?c5; (case kA => exact rfl); (case kF => exact rfl); (case kK => first | assumption | exact rfl); (case k1 => k_asm); (case k2 => k_asm); (case k3 => k_asm); (case k4 => k_asm); (case k5 => k_asm); (case k6 => k_is); (case k7 => k_is); (case k8 => ktr_room); (case k9 => exact BindsTo.of_eq rfl); (case c5 => decide); (case kB => exact locs rfl); (case c2 => exact rfl); (case c3 => exact rfl); (case c4 => exact rfl); k_whole; intro g' L' h' FG' F' N' B' X' T'; (try dsimp only); (try k_lift B'); (try k_fold)))
local macro_rules | `(tactic| walk_at "call ref") => `(tactic| (k_here; k_dflt ((show wpAny _ _ (call (Value.ref 67) _) _ _ _); refine wpAny_call ?_; walk_at "my_enter")))
theorem eof_ct {w : World} {p : Program} {loose : List Str} {mean : ExcName → Option Value} {mg mb : Str → Option Value}
    {dp un : Nat} {gd : Option (List Code)} {cn : Str} {cs : Scope} {a : Addr} {ccd : Value} {cl : List (Str × Addr)} {outer : List Env} {A₀ : Around} {base h₀ : Heap} {L : Addr} {m : Str → Option Value} {s : Shared} {Q E : Value → Shared → Prop}
    {vk : Value} {news : List (Addr × Obj)}
    (B : Below A₀ base outer h₀) (F : Fr h₀ L s.heap m) (X : (hd.heap_39 w.params).In h₀) (T : Top p loose mean mg mb h₀) (hk : cs.kind = .function)
    (hdp : dp + 8 < 400) (hun : un + 80 < 4000)
    (N : News h₀ L s.heap news)
    (ret : ∀ x xd (hp : Int) te tp h' tk', Fr h₀ L h' m → News h₀ L h' ((x, tokO 135 xd (.str (Str.ofString "EOF") te) .none) :: (xd, dictOf [⟨hp, .str (Str.ofString "pos") tp, vk⟩] 1) :: news) → (∀ p ∈ news, p.1 ≠ x) → (∀ p ∈ news, p.1 ≠ xd) → xd ≠ x → Q (.ref x) { s with heap := h', toks := tk' }) :
    wpAny (model Challenge.rw_ez0041_01.row.prog w) (ktrTop dp un gd cn cs L a ccd cl outer) (call (.ref 135) [vk]) Q E s := by
  revert X; k_fill; intro X
  refine make_TK F X (by k_is) rfl (by k_is) (by k_is) (by kernel_rfl) (by k_is) (by k_is) (by k_is) (by k_is) ?_
  refine wpAny_call ?_
  k_dflt cell_enter
  repeat' (first | (k_unfold; (try dsimp only)) | walk1 | (dsimp only; walk1) | (leave1; walk_say "STEP leave1"; try dsimp only))
  all_goals ((rename Fr h₀ L _ _ => kF); (rename News h₀ L _ _ => kN); have XX := X.keeps kF.keep)
  · exact (instAt_seq kN (List.Mem.head _) (List.Mem.tail _ (List.Mem.head _))).type.andThen (looks_mroIn XX (by k_is))
  · k_dflt (refine' tini135_N ?h ?d ?f ?u kF X kN (List.Mem.head _) (List.Mem.tail _ (List.Mem.head _)) ?i ⟨rfl, ?r⟩)
    (case h => rfl)
    (case d => walk_at "my_depth")
    (case f => rfl)
    (case u => walk_at "my_units")
    (case i => k_is)
    (case r => exact ret _ _ _ _ _ _ _ kF (cb_drop kN (by kcf_all)) (off_tail (by assumption)) (off_tail (by assumption)) (by assumption))
end Mine

end
section
theorem Mine.rst_T2 : True := by (w_top off); first | (walk1; done) | trivial
open PySem PySem.W PyProof.Rows PySem.Calls
set_option maxHeartbeats 8000000
namespace Mine
local macro_rules | `(tactic| k_mem) => `(tactic| assumption)
local macro_rules | `(tactic| k_all) => `(tactic| assumption)
local macro_rules | `(tactic| k_ne) => `(tactic| first | assumption | exact Ne.symm (by assumption))
local macro_rules | `(tactic| k_inst) => `(tactic| (refine' instAt_seq ?N ?h1 ?h2; (case N => k_asm); (case h1 => k_mem); (case h2 => k_mem)))
local macro_rules | `(tactic| walk_at "my_depth") => `(tactic| ((try simp only [depth_under_make, depth_under_kw, depth_in1, depth_deeper, depth_caller]); (try dsimp only [ktrTop]); omega))
local macro_rules | `(tactic| walk_at "my_units") => `(tactic| ((try simp only [units_under_make, units_in1, units_deeper, Around.mark_units, units_caller]); (try dsimp only [ktrTop]); omega))
local macro_rules | `(tactic| walk_at "my_enter") => `(tactic| (refine' code_def ?k1 ?k2 ?k3 ?k4 ?k5 ?kA ?kF ?kK ?k6 ?k7 ?k8 ?k9 ?kB ?_ ?c2 ?c3 ?c4 ?c5; (case kA => exact rfl); (case kF => exact rfl); (case kK => first | assumption | exact rfl); (case k1 => k_asm); (case k2 => k_asm); (case k3 => k_asm); (case k4 => k_asm); (case k5 => k_asm); (case k6 => k_is); (case k7 => k_is); (case k8 => ktr_room); (case k9 => exact BindsTo.of_eq rfl); (case c5 => decide); (case kB => exact locs rfl); (case c2 => exact rfl); (case c3 => exact rfl); (case c4 => exact rfl); k_whole; intro g' L' h' FG' F' N' B' X' T'; (try dsimp only); (try k_lift B'); (try k_fold)))

local macro_rules | `(tactic| walk_at "subscriptTail") => `(tactic| (k_here; k_dflt (refine' tail_tok ?F ?X ?I ?d ?q ?s ?m ?lo ?hi ?j ?x ?_ ?hs; (case F => k_asm); (case X => k_asm); (case I => k_inst); (case d => rfl); (case q => k_is); (case s => k_is); (case m => k_is); (case lo => decide); (case hi => decide); (case j => first | exact ix0 | exact ix1); (case x => first | exact at0 | exact at1); (case hs => with_unfolding_all rfl))))

theorem type107_ct {w : World} {p : Program} {loose : List Str} {mean : ExcName → Option Value} {mg mb : Str → Option Value}
    {dp un : Nat} {gd : Option (List Code)} {cn : Str} {cs : Scope} {a : Addr} {ccd : Value} {cl : List (Str × Addr)} {outer : List Env} {A₀ : Around} {base h₀ : Heap} {L : Addr} {m : Str → Option Value} {s : Shared} {Q E : Value → Shared → Prop}
    {va vb : Value} {news : List (Addr × Obj)} {x xd : Addr} {es : List DictEntry} {n : Nat} {expr : Bool}
    (B : Below A₀ base outer h₀) (F : Fr h₀ L s.heap m) (X : (hd.heap_39 w.params).In h₀) (T : Top p loose mean mg mb h₀) (hk : cs.kind = .function)
    (hdp : dp + 4 < 400) (hun : un + 40 < 4000)
    (N : News h₀ L s.heap news) (hx : (x, tokO 107 xd va vb) ∈ news) (hxd : (xd, dictOf es n) ∈ news) (hh : handedIn va = true)
    (ret : ∀ h' tk', Fr h₀ L h' m → News h₀ L h' news → Q va { s with heap := h', toks := tk' }) :
    wpAny (model Challenge.rw_ez0041_01.row.prog w) (ktrTop dp un gd cn cs L a ccd cl outer) (getAttr (.ref x) "type" expr) Q E s := by
  revert X; k_fill; intro X
  k_dflt (refine' tok_prop (X.keeps F.keep) ?I ?g ?h ?m ?c ?a ?n ?t ?p ?_)
  (case I => k_inst)
  (case g => k_is)
  (case h => k_is)
  (case m => k_is)
  (case c => rfl)
  (case a => k_is)
  (case n => k_is)
  (case t => k_is)
  (case p => k_is)
  k_dflt (walk_at "my_enter")
  repeat' (first | (k_unfold; (try dsimp only)) | walk1 | (dsimp only; walk1) | (leave1; walk_say "STEP leave1"; try dsimp only))
  rw [handedOut_of hh]
  exact wpAny_pure (ret _ _ (by assumption) (by assumption))

theorem value107_ct {w : World} {p : Program} {loose : List Str} {mean : ExcName → Option Value} {mg mb : Str → Option Value}
    {dp un : Nat} {gd : Option (List Code)} {cn : Str} {cs : Scope} {a : Addr} {ccd : Value} {cl : List (Str × Addr)} {outer : List Env} {A₀ : Around} {base h₀ : Heap} {L : Addr} {m : Str → Option Value} {s : Shared} {Q E : Value → Shared → Prop}
    {va vb : Value} {news : List (Addr × Obj)} {x xd : Addr} {es : List DictEntry} {n : Nat} {expr : Bool}
    (B : Below A₀ base outer h₀) (F : Fr h₀ L s.heap m) (X : (hd.heap_39 w.params).In h₀) (T : Top p loose mean mg mb h₀) (hk : cs.kind = .function)
    (hdp : dp + 4 < 400) (hun : un + 40 < 4000)
    (N : News h₀ L s.heap news) (hx : (x, tokO 107 xd va vb) ∈ news) (hxd : (xd, dictOf es n) ∈ news) (hh : handedIn vb = true)
    (ret : ∀ h' tk', Fr h₀ L h' m → News h₀ L h' news → Q vb { s with heap := h', toks := tk' }) :
    wpAny (model Challenge.rw_ez0041_01.row.prog w) (ktrTop dp un gd cn cs L a ccd cl outer) (getAttr (.ref x) "value" expr) Q E s := by
  revert X; k_fill; intro X
  k_dflt (refine' tok_prop (X.keeps F.keep) ?I ?g ?h ?m ?c ?a ?n ?t ?p ?_)
  (case I => k_inst)
  (case g => k_is)
  (case h => k_is)
  (case m => k_is)
  (case c => rfl)
  (case a => k_is)
  (case n => k_is)
  (case t => k_is)
  (case p => k_is)
  k_dflt (walk_at "my_enter")
  repeat' (first | (k_unfold; (try dsimp only)) | walk1 | (dsimp only; walk1) | (leave1; walk_say "STEP leave1"; try dsimp only))
  rw [handedOut_of hh]
  exact wpAny_pure (ret _ _ (by assumption) (by assumption))

theorem type135_ct {w : World} {p : Program} {loose : List Str} {mean : ExcName → Option Value} {mg mb : Str → Option Value}
    {dp un : Nat} {gd : Option (List Code)} {cn : Str} {cs : Scope} {a : Addr} {ccd : Value} {cl : List (Str × Addr)} {outer : List Env} {A₀ : Around} {base h₀ : Heap} {L : Addr} {m : Str → Option Value} {s : Shared} {Q E : Value → Shared → Prop}
    {va vb : Value} {news : List (Addr × Obj)} {x xd : Addr} {es : List DictEntry} {n : Nat} {expr : Bool}
    (B : Below A₀ base outer h₀) (F : Fr h₀ L s.heap m) (X : (hd.heap_39 w.params).In h₀) (T : Top p loose mean mg mb h₀) (hk : cs.kind = .function)
    (hdp : dp + 4 < 400) (hun : un + 40 < 4000)
    (N : News h₀ L s.heap news) (hx : (x, tokO 135 xd va vb) ∈ news) (hxd : (xd, dictOf es n) ∈ news) (hh : handedIn va = true)
    (ret : ∀ h' tk', Fr h₀ L h' m → News h₀ L h' news → Q va { s with heap := h', toks := tk' }) :
    wpAny (model Challenge.rw_ez0041_01.row.prog w) (ktrTop dp un gd cn cs L a ccd cl outer) (getAttr (.ref x) "type" expr) Q E s := by
  revert X; k_fill; intro X
  k_dflt (refine' tok_prop (X.keeps F.keep) ?I ?g ?h ?m ?c ?a ?n ?t ?p ?_)
  (case I => k_inst)
  (case g => k_is)
  (case h => k_is)
  (case m => k_is)
  (case c => rfl)
  (case a => k_is)
  (case n => k_is)
  (case t => k_is)
  (case p => k_is)
  k_dflt (walk_at "my_enter")
  repeat' (first | (k_unfold; (try dsimp only)) | walk1 | (dsimp only; walk1) | (leave1; walk_say "STEP leave1"; try dsimp only))
  rw [handedOut_of hh]
  exact wpAny_pure (ret _ _ (by assumption) (by assumption))

theorem value135_ct {w : World} {p : Program} {loose : List Str} {mean : ExcName → Option Value} {mg mb : Str → Option Value}
    {dp un : Nat} {gd : Option (List Code)} {cn : Str} {cs : Scope} {a : Addr} {ccd : Value} {cl : List (Str × Addr)} {outer : List Env} {A₀ : Around} {base h₀ : Heap} {L : Addr} {m : Str → Option Value} {s : Shared} {Q E : Value → Shared → Prop}
    {va vb : Value} {news : List (Addr × Obj)} {x xd : Addr} {es : List DictEntry} {n : Nat} {expr : Bool}
    (B : Below A₀ base outer h₀) (F : Fr h₀ L s.heap m) (X : (hd.heap_39 w.params).In h₀) (T : Top p loose mean mg mb h₀) (hk : cs.kind = .function)
    (hdp : dp + 4 < 400) (hun : un + 40 < 4000)
    (N : News h₀ L s.heap news) (hx : (x, tokO 135 xd va vb) ∈ news) (hxd : (xd, dictOf es n) ∈ news) (hh : handedIn vb = true)
    (ret : ∀ h' tk', Fr h₀ L h' m → News h₀ L h' news → Q vb { s with heap := h', toks := tk' }) :
    wpAny (model Challenge.rw_ez0041_01.row.prog w) (ktrTop dp un gd cn cs L a ccd cl outer) (getAttr (.ref x) "value" expr) Q E s := by
  revert X; k_fill; intro X
  k_dflt (refine' tok_prop (X.keeps F.keep) ?I ?g ?h ?m ?c ?a ?n ?t ?p ?_)
  (case I => k_inst)
  (case g => k_is)
  (case h => k_is)
  (case m => k_is)
  (case c => rfl)
  (case a => k_is)
  (case n => k_is)
  (case t => k_is)
  (case p => k_is)
  k_dflt (walk_at "my_enter")
  repeat' (first | (k_unfold; (try dsimp only)) | walk1 | (dsimp only; walk1) | (leave1; walk_say "STEP leave1"; try dsimp only))
  rw [handedOut_of hh]
  exact wpAny_pure (ret _ _ (by assumption) (by assumption))

end Mine

end
section
theorem Mine.rst_T3 : True := by (w_top off); first | (walk1; done) | trivial
open PySem PySem.W PyProof.Rows PySem.Calls
set_option maxHeartbeats 8000000
namespace Mine
local macro_rules | `(tactic| walk_at "eval Name") => `(tactic| (k_here; k_dflt (first | (refine' nameX_L ?F ?v ?_ ?a ?b ?d; (case b => kernel_rfl); (case d => kernel_rfl); (case F => k_asm); (case a => rfl); (case v => rfl); k_whole) | (refine' nameX_C ?N ?c ?m ?d ?_ ?a ?b ?e; (case b => kernel_rfl); (case e => kernel_rfl); (case a => rfl); (case N => k_asm); (case c => rfl); (case m => k_mem); (case d => k_asm); k_whole) | (refine' nameX_K ?F ?X ?T ?e ?_ ?a ?b ?d; (case b => kernel_rfl); (case d => kernel_rfl); (case F => k_asm); (case X => k_asm); (case T => k_asm); (case a => rfl); (case e => k_is); k_whole) | (refine' nameX_B ?F ?X ?T ?e ?v ?n ?_ ?a ?b ?d; (case b => kernel_rfl); (case d => kernel_rfl); (case F => k_asm); (case X => k_asm); (case T => k_asm); (case a => rfl); (case e => k_is); (case v => boot_fast); (case n => decide); k_whole))))
local macro_rules | `(tactic| walk_at "storeName") => `(tactic| (k_here; k_dflt (first | (refine' storeX_L ?F ?N ?_ ?a ?b; (case b => kernel_rfl); (case F => k_asm); (case N => k_asm); (case a => rfl); k_whole; intro h' F' N'; (try k_sweep)) | (refine' storeX_C ?F ?N ?c ?U ?d ?_ ?a ?b; (case b => kernel_rfl); (case a => rfl); (case F => k_asm); (case N => k_asm); (case c => rfl); (case U => k_updF); (case d => k_asm); k_whole; intro h' o' F' N' d'; (try dsimp only at N'); (try k_sweep)))))
local macro_rules | `(tactic| walk_at "spliced") => `(tactic| first | with_reducible refine args_cons ?_ (by with_unfolding_all rfl) | with_reducible refine args_nil ⟨Fr.keep (by assumption) _ _ (by assumption), ?_⟩ | (with_reducible refine args_nil ?_; try simp only [List.cons_append, List.nil_append]))
local macro_rules | `(tactic| k_mem) => `(tactic| assumption)
local macro_rules | `(tactic| k_all) => `(tactic| assumption)
local macro_rules | `(tactic| k_ne) => `(tactic| first | assumption | exact Ne.symm (by assumption))
local macro_rules | `(tactic| k_inst) => `(tactic| (refine' instAt_seq ?N ?h1 ?h2; (case N => k_asm); (case h1 => k_mem); (case h2 => k_mem)))
local macro_rules | `(tactic| walk_at "my_depth") => `(tactic| ((try simp only [depth_under_make, depth_under_kw, depth_in1, depth_deeper, depth_caller]); (try dsimp only [ktrTop]); omega))
local macro_rules | `(tactic| walk_at "my_units") => `(tactic| ((try simp only [units_under_make, units_in1, units_deeper, Around.mark_units, units_caller]); (try dsimp only [ktrTop]); omega))
local macro_rules | `(tactic| walk_at "my_enter") => `(tactic| (refine' code_def ?k1 ?k2 ?k3 ?k4 ?k5 ?kA ?kF ?kK ?k6 ?k7 ?k8 ?k9 ?kB ?_ ?c2 ?c3 ?c4 ?c5; (case kA => exact rfl); (case kF => exact rfl); (case kK => first | assumption | exact rfl); (case k1 => k_asm); (case k2 => k_asm); (case k3 => k_asm); (case k4 => k_asm); (case k5 => k_asm); (case k6 => k_is); (case k7 => k_is); (case k8 => ktr_room); (case k9 => exact BindsTo.of_eq rfl); (case c5 => decide); (case kB => exact locs rfl); (case c2 => exact rfl); (case c3 => exact rfl); (case c4 => exact rfl); k_whole; intro g' L' h' FG' F' N' B' X' T'; (try dsimp only); (try k_lift B'); (try k_fold)))

local macro_rules | `(tactic| walk_at "getAttr ref") => `(tactic| (k_here; (with_reducible show wpAny _ _ (getAttr (Value.ref _) (Str.ofString "type") _) _ _ _); k_dflt ((first | refine' type107_ct (cl := []) ?B ?F ?X ?T ?k ?d ?u ?N ?x ?y ?h ?_ | refine' type135_ct (cl := []) ?B ?F ?X ?T ?k ?d ?u ?N ?x ?y ?h ?_); (case B => k_asm); (case F => k_asm); (case X => k_asm); (case T => k_asm); (case k => first | assumption | rfl); (case d => walk_at "my_depth"); (case u => walk_at "my_units"); (case N => k_asm); (case x => k_mem); (case y => k_mem); (case h => first | assumption | rfl); intro h' tk' F' N')))
local macro_rules | `(tactic| walk_at "getAttr ref") => `(tactic| (k_here; (with_reducible show wpAny _ _ (getAttr (Value.ref _) (Str.ofString "value") _) _ _ _); k_dflt ((first | refine' value107_ct (cl := []) ?B ?F ?X ?T ?k ?d ?u ?N ?x ?y ?h ?_ | refine' value135_ct (cl := []) ?B ?F ?X ?T ?k ?d ?u ?N ?x ?y ?h ?_); (case B => k_asm); (case F => k_asm); (case X => k_asm); (case T => k_asm); (case k => first | assumption | rfl); (case d => walk_at "my_depth"); (case u => walk_at "my_units"); (case N => k_asm); (case x => k_mem); (case y => k_mem); (case h => first | assumption | rfl); intro h' tk' F' N')))
local macro_rules | `(tactic| walk_at "getAttr ref") => `(tactic| (k_here; (with_reducible show wpAny _ _ (getAttr (Value.ref _) (Str.ofString "pos") _) _ _ _); k_dflt (refine' tok_own ?F ?X ?I ?g ?h ?m ?hd ?a ?n ?l ?hh ?_; (case F => k_asm); (case X => k_asm); (case I => k_inst); (case g => k_is); (case h => k_is); (case m => k_is); (case hd => k_is); (case a => k_is); (case n => k_is); (case l => k_get); (case hh => k_handed); k_whole)))
local macro_rules | `(tactic| walk_at "ite") => `(tactic| (k_closed; first | (with_reducible refine my_iteT (by with_unfolding_all rfl) ?_) | (with_reducible refine my_iteF (by with_unfolding_all rfl) ?_)))


theorem len_small {j : Int} (h0 : 0 ≤ j) (h1 : j ≤ 20) : (Str.ofString (toString j)).length ≤ 2 := by
  have key : ∀ n : _root_.Fin 21, (Str.ofString (toString ((n.1 : Nat) : Int))).length ≤ 2 := by decide +kernel
  have := key ⟨j.toNat, by omega⟩
  have e : ((j.toNat : Nat) : Int) = j := by omega
  rw [e] at this
  exact this

theorem repr_ct {w : World} {p : Program} {loose : List Str} {mean : ExcName → Option Value} {mg mb : Str → Option Value}
    {dp un : Nat} {gd : Option (List Code)} {cn : Str} {cs : Scope} {a : Addr} {ccd : Value} {cl : List (Str × Addr)} {outer : List Env} {A₀ : Around} {base h₀ : Heap} {L : Addr} {m : Str → Option Value} {s : Shared} {Q E : Value → Shared → Prop}
    {va vb : Str} {ta tb tj : Tok} {j : Int} {news : List (Addr × Obj)} {x xd : Addr} {hp : Int} {tp : Tok}
    (B : Below A₀ base outer h₀) (F : Fr h₀ L s.heap m) (X : (hd.heap_39 w.params).In h₀) (T : Top p loose mean mg mb h₀) (hk : cs.kind = .function)
    (hdp : dp + 8 < 400) (hun : un + 80 < 4000)
    (N : News h₀ L s.heap news) (hx : (x, tokO 107 xd (.str va ta) (.str vb tb)) ∈ news) (hxd : (xd, dictOf [⟨hp, .str (Str.ofString "pos") tp, .int j tj⟩] 1) ∈ news)
    (ha : va.length ≤ 20) (hb : vb.length ≤ 20) (hj0 : 0 ≤ j) (hj1 : j ≤ 20)
    (ret : ∀ y t h' tk', Fr h₀ L h' m → News h₀ L h' news → y.length ≤ 100 → Q (.str y t) { s with heap := h', toks := tk' }) :
    wpAny (model Challenge.rw_ez0041_01.row.prog w) (ktrTop dp un gd cn cs L a ccd cl outer) (call (.ref 74) [.ref x]) Q E s := by
  revert X; k_fill; intro X
  refine wpAny_call ?_
  k_dflt (walk_at "my_enter")
  repeat' (first | (k_unfold; (try dsimp only)) | walk1 | (dsimp only; walk1) | (leave1; walk_say "STEP leave1"; try dsimp only))
  exact ret _ _ _ _ (by assumption) (by assumption) (by simp only [Str.length_append]; have := len_small hj0 hj1; have h1 : Str.empty.length = 0 := (by decide); have h2 : (Str.ofString "<").length = 1 := (by decide); have h3 : (Str.ofString " '").length = 2 := (by decide); have h4 : (Str.ofString "' at ").length = 5 := (by decide); have h5 : (Str.ofString ">").length = 1 := (by decide); omega)
end Mine

end
section
theorem Mine.rst_K1 : True := by (w_top off); first | (walk1; done) | trivial
open PySem PySem.W PyProof.Rows PySem.Calls
set_option maxHeartbeats 8000000
namespace Mine
local macro_rules | `(tactic| walk_at "eval Name") => `(tactic| (k_here; k_dflt (first | (refine' nameX_L ?F ?v ?_ ?a ?b ?d; (case b => kernel_rfl); (case d => kernel_rfl); (case F => k_asm); (case a => rfl); (case v => rfl); k_whole) | (refine' nameX_C ?N ?c ?m ?d ?_ ?a ?b ?e; (case b => kernel_rfl); (case e => kernel_rfl); (case a => rfl); (case N => k_asm); (case c => rfl); (case m => k_mem); (case d => k_asm); k_whole) | (refine' nameX_K ?F ?X ?T ?e ?_ ?a ?b ?d; (case b => kernel_rfl); (case d => kernel_rfl); (case F => k_asm); (case X => k_asm); (case T => k_asm); (case a => rfl); (case e => k_is); k_whole) | (refine' nameX_B ?F ?X ?T ?e ?v ?n ?_ ?a ?b ?d; (case b => kernel_rfl); (case d => kernel_rfl); (case F => k_asm); (case X => k_asm); (case T => k_asm); (case a => rfl); (case e => k_is); (case v => boot_fast); (case n => decide); k_whole))))
local macro_rules | `(tactic| walk_at "storeName") => `(tactic| (k_here; k_dflt (first | (refine' storeX_L ?F ?N ?_ ?a ?b; (case b => kernel_rfl); (case F => k_asm); (case N => k_asm); (case a => rfl); k_whole; intro h' F' N'; (try k_sweep)) | (refine' storeX_C ?F ?N ?c ?U ?d ?_ ?a ?b; (case b => kernel_rfl); (case a => rfl); (case F => k_asm); (case N => k_asm); (case c => rfl); (case U => k_updF); (case d => k_asm); k_whole; intro h' o' F' N' d'; (try dsimp only at N'); (try k_sweep)))))
local macro_rules | `(tactic| walk_at "spliced") => `(tactic| first | with_reducible refine args_cons ?_ (by with_unfolding_all rfl) | with_reducible refine args_nil ⟨Fr.keep (by assumption) _ _ (by assumption), ?_⟩ | (with_reducible refine args_nil ?_; try simp only [List.cons_append, List.nil_append]))
local macro_rules | `(tactic| k_mem) => `(tactic| assumption)
local macro_rules | `(tactic| k_all) => `(tactic| assumption)
local macro_rules | `(tactic| k_ne) => `(tactic| first | assumption | exact Ne.symm (by assumption))
local macro_rules | `(tactic| k_inst) => `(tactic| (refine' instAt_seq ?N ?h1 ?h2; (case N => k_asm); (case h1 => k_mem); (case h2 => k_mem)))
local macro_rules | `(tactic| walk_at "my_depth") => `(tactic| ((try simp only [depth_under_make, depth_under_kw, depth_in1, depth_deeper, depth_caller]); (try dsimp only [ktrTop]); omega))
local macro_rules | `(tactic| walk_at "my_units") => `(tactic| ((try simp only [units_under_make, units_in1, units_deeper, Around.mark_units, units_caller]); (try dsimp only [ktrTop]); omega))
local macro_rules | `(tactic| walk_at "my_enter") => `(tactic| (refine' code_def ?k1 ?k2 ?k3 ?k4 ?k5 ?kA ?kF ?kK ?k6 ?k7 ?k8 ?k9 ?kB ?_ ?c2 ?c3 ?c4 ?c5; (case kA => exact rfl); (case kF => exact rfl); (case kK => first | assumption | exact rfl); (case k1 => k_asm); (case k2 => k_asm); (case k3 => k_asm); (case k4 => k_asm); (case k5 => k_asm); (case k6 => k_is); (case k7 => k_is); (case k8 => ktr_room); (case k9 => exact BindsTo.of_eq rfl); (case c5 => decide); (case kB => exact locs rfl); (case c2 => exact rfl); (case c3 => exact rfl); (case c4 => exact rfl); k_whole; intro g' L' h' FG' F' N' B' X' T'; (try dsimp only); (try k_lift B'); (try k_fold)))

local macro_rules | `(tactic| walk_at "getAttr ref") => `(tactic| (k_here; (with_reducible show wpAny _ _ (getAttr (Value.ref _) (Str.ofString "type") _) _ _ _); k_dflt ((first | refine' type107_ct (cl := []) ?B ?F ?X ?T ?k ?d ?u ?N ?x ?y ?h ?_ | refine' type135_ct (cl := []) ?B ?F ?X ?T ?k ?d ?u ?N ?x ?y ?h ?_); (case B => k_asm); (case F => k_asm); (case X => k_asm); (case T => k_asm); (case k => first | assumption | rfl); (case d => walk_at "my_depth"); (case u => walk_at "my_units"); (case N => k_asm); (case x => k_mem); (case y => k_mem); (case h => first | assumption | rfl); intro h' tk' F' N')))
local macro_rules | `(tactic| walk_at "getAttr ref") => `(tactic| (k_here; (with_reducible show wpAny _ _ (getAttr (Value.ref _) (Str.ofString "value") _) _ _ _); k_dflt ((first | refine' value107_ct (cl := []) ?B ?F ?X ?T ?k ?d ?u ?N ?x ?y ?h ?_ | refine' value135_ct (cl := []) ?B ?F ?X ?T ?k ?d ?u ?N ?x ?y ?h ?_); (case B => k_asm); (case F => k_asm); (case X => k_asm); (case T => k_asm); (case k => first | assumption | rfl); (case d => walk_at "my_depth"); (case u => walk_at "my_units"); (case N => k_asm); (case x => k_mem); (case y => k_mem); (case h => first | assumption | rfl); intro h' tk' F' N')))
local macro_rules | `(tactic| walk_at "getAttr ref") => `(tactic| (k_here; (with_reducible show wpAny _ _ (getAttr (Value.ref _) (Str.ofString "pos") _) _ _ _); k_dflt (refine' tok_own ?F ?X ?I ?g ?h ?m ?hd ?a ?n ?l ?hh ?_; (case F => k_asm); (case X => k_asm); (case I => k_inst); (case g => k_is); (case h => k_is); (case m => k_is); (case hd => k_is); (case a => k_is); (case n => k_is); (case l => k_get); (case hh => k_handed); k_whole)))
local macro_rules | `(tactic| walk_at "ite") => `(tactic| (k_closed; first | (with_reducible refine my_iteT (by with_unfolding_all rfl) ?_) | (with_reducible refine my_iteF (by with_unfolding_all rfl) ?_)))

local macro_rules | `(tactic| walk_at "my_enterS") => `(tactic| (refine' code_defX0 ?k1 ?k2 ?k3 ?k4 ?k5 ?kA ?kF ?kK ?k6 ?k7 ?k8 ?k9 ?kB ?_ ?c2 ?c3 ?c4 ?c5; (case kA => exact rfl); (case kF => exact rfl); (case kK => first | assumption | exact rfl); (case k1 => k_asm); (case k2 => k_asm); (case k3 => k_asm); (case k4 => k_asm); (case k5 => k_asm); (case k6 => k_is); (case k7 => k_is); (case k8 => ktr_room); (case k9 => exact BindsTo.of_eq rfl); (case c5 => decide); (case kB => exact locs rfl); (case c2 => exact rfl); (case c3 => exact rfl); (case c4 => exact rfl); k_whole; intro g' L' h' FG' F' N' B' X' T' D'; (try dsimp only); (try k_lift B'); (try k_fold)))
local macro_rules | `(tactic| walk_at "call ref") => `(tactic| (k_here; k_dflt (refine wpAny_call ?_; walk_at "my_enter")))
local macro_rules | `(tactic| walk_at "call ref") => `(tactic| (k_here; k_dflt ((show wpAny _ _ (call (Value.ref 74) [Value.ref _]) _ _ _); (refine' repr_ct (cl := []) ?B ?F ?X ?T ?k ?d ?u ?N ?x ?y ?la ?lb ?j0 ?j1 ?_; (case B => k_asm); (case F => k_asm); (case X => k_asm); (case T => k_asm); (case k => first | assumption | rfl); (case d => walk_at "my_depth"); (case u => walk_at "my_units"); (case N => k_asm); (case x => k_mem); (case y => k_mem); (case la => assumption); (case lb => assumption); (case j0 => assumption); (case j1 => assumption); intro y' t' h' tk' F' N' ly')); (try dsimp only [StrBack])))
local macro_rules | `(tactic| walk_at "call ref") => `(tactic| (k_here; k_dflt ((show wpAny _ _ (call (Value.ref 167) [Value.ref _]) _ _ _); (refine' next_ct (cl := []) ?B ?F ?X ?T ?k ?d ?u ?N ?i ?l ?a ?x ?s ?o1 ?o2 ?o3 ?o4 ?o5 ?o6 ?o7 ?o8 ?o9 ?oa ?ob ?oc ?_; (case B => k_asm); (case F => k_asm); (case X => k_asm); (case T => k_asm); (case k => first | assumption | rfl); (case d => ktr_room); (case u => ktr_units); (case N => k_asm); (case i => k_asm); (case l => k_mem); (case a => assumption); (case x => assumption); (case s => assumption); (all_goals (try assumption)); intro io' pv' h' tk' F' N' hi')); (try dsimp only)))
local macro_rules | `(tactic| walk_at "call ref") => `(tactic| (k_here; k_dflt ((show wpAny _ _ (call (Value.ref 174) [Value.ref _]) _ _ _); (refine' peek_ct (cl := []) ?B ?F ?X ?T ?k ?d ?u ?N ?i ?l ?a ?x ?o1 ?o2 ?o3 ?o4 ?o5 ?o6 ?o7 ?o8 ?o9 ?oa ?ob ?oc ?_; (case B => k_asm); (case F => k_asm); (case X => k_asm); (case T => k_asm); (case k => first | assumption | rfl); (case d => ktr_room); (case u => ktr_units); (case N => k_asm); (case i => k_asm); (case l => k_mem); (case a => assumption); (case x => assumption); (all_goals (try assumption)); intro io' h' tk' F' N' hi')); (try dsimp only)))
local macro_rules | `(tactic| walk_at "formatField ref") => `(tactic| (k_here; (with_reducible show wpAny _ _ (formatField (Value.ref _) _) _ _ _); k_dflt (refine' kfo_fieldR ?u ?v ?X ?I ?g ?m ?s ?r ?f ?_; (case u => ktr_units); (case v => ktr_units); (case X => k_in); (case I => k_inst); (case s => k_is); (case r => k_is); (case f => k_is); (case g => k_is); (case m => k_is); k_whole)))
local macro_rules | `(tactic| walk_at "call type:tuple") => `(tactic| (k_here; (with_reducible show wpAny _ _ (call (Value.type "tuple") [Value.ref _]) _ _ _); k_dflt ((first | refine' tup107_N ?h ?d ?f ?u ?F ?X ?N ?T ?_ | refine' tup135_N ?h ?d ?f ?u ?F ?X ?N ?T ?_); (case h => rfl); (case d => walk_at "my_depth"); (case f => rfl); (case u => walk_at "my_units"); (case F => k_asm); (case X => k_asm); (case N => k_asm); (case T => k_mem); intro y' h' tk' F' N' n1)))

local macro_rules | `(tactic| walk_at "compareOp Eq ref ref") => `(tactic| (k_here; k_dflt (refine' eq_tok ?u ?F ?X ?I ?d ?hb ?c ?b ?n ?s ?m ?_; (case u => walk_at "my_units"); (case F => k_asm); (case X => k_asm); (case I => k_inst); (case hb => (refine' news_get ?N ?h; (case N => k_asm); (case h => k_mem))); (case d => exact rfl); (case c => exact rfl); (case b => exact rfl); (case n => k_is); (case s => k_is); (case m => k_is); (try dsimp only))))
theorem bne_absurd {a b : Str} (h : (a != b) = false) (n : a ≠ b) : False := n (by simpa using h)
theorem and_absurd {a b c d : Str} (h : (a == b && c == d) = true) (n : ¬ (a = b ∧ c = d)) : False := n (by simpa using h)
theorem beq_absurd {a b : Str} (h : (a == b) = true) (n : a ≠ b) : False := n (by simpa using h)

theorem taken1_ct {w : World} {p : Program} {loose : List Str} {mean : ExcName → Option Value} {mg mb : Str → Option Value}
    {dp un : Nat} {gd : Option (List Code)} {cn : Str} {cs : Scope} {a : Addr} {ccd : Value} {cl : List (Str × Addr)} {A₀ : Around} {base h₀ : Heap} {L : Addr} {m : Str → Option Value} {s : Shared} {Q E : Value → Shared → Prop}
    {S Sd U IT TL : Addr} {h1 h2 h3 h4 h5 : Int} {t1 t2 t3 t4 t5 : Tok} {pv : Value} {pk : Bool} {io : Obj} {i : Nat} {items : Array Value} {tn : Nat} {us : Array Value} {un' : Nat} {ta : Addr} {rest : List (Addr × Obj)} {wt : Tok}
    (B : Below A₀ base [] h₀) (XB : (hd.heap_39 w.params).In base) (TB : Top p loose mean mg mb base) (F : Fr h₀ L s.heap m) (X : (hd.heap_39 w.params).In h₀) (T : Top p loose mean mg mb h₀) (hk : cs.kind = .function)
    (hdp : dp + 30 < 400) (hun : un + 300 < 4000)
    (N : News h₀ L s.heap ((IT, io) :: (U, listOf us un') :: (Sd, sDict h1 h2 h3 h4 h5 t1 t2 t3 t4 t5 U IT pv pk) :: (S, instObj 198 Sd) :: rest))
    (hi : LI io TL i) (hTL : (TL, listOf items tn) ∈ rest) {spot : Nat} (hat : At items i spot pk pv) (hx : items[spot]? = some (.ref ta)) (hus : us.size ≤ 100)
    {va vb : Str} {tva tvb tj tp : Tok} {j hp : Int} {td : Addr} (hta : (ta, tokO 107 td (.str va tva) (.str vb tvb)) ∈ rest) (htd : (td, dictOf [⟨hp, .str (Str.ofString "pos") tp, .int j tj⟩] 1) ∈ rest)
    (la : va.length ≤ 20) (lb : vb.length ≤ 20) (j0 : 0 ≤ j) (j1 : j ≤ 20)  (o1 : U ≠ IT) (o2 : Sd ≠ IT) (o3 : S ≠ IT) (o4 : ∀ p ∈ rest, p.1 ≠ IT) (o5 : Sd ≠ U) (o6 : S ≠ U) (o7 : ∀ p ∈ rest, p.1 ≠ U) (o8 : S ≠ Sd) (o9 : ∀ p ∈ rest, p.1 ≠ Sd) (oa : IT ≠ U) (ob : IT ≠ Sd) (oc : U ≠ Sd)
    (ret : ∀ (io' : Obj) pv' y y2 tt h' tk', Fr h₀ L h' m → News h₀ L h' ((y, (⟨.type "tuple", none, .seq #[.str (Str.ofString "mark") tt, .ref y2] 0, #[]⟩ : Obj)) :: (y2, (⟨.type "tuple", none, .seq #[.str va tva, .str vb tvb] 0, #[]⟩ : Obj)) :: ((IT, io') :: (U, listOf (us.push (.ref ta)) (un' + 1)) :: (Sd, sDict h1 h2 h3 h4 h5 t1 t2 t3 t4 t5 U IT pv' false) :: (S, instObj 198 Sd) :: rest)) → LI io' TL (spot + 1) → Q (.ref y) { s with heap := h', toks := tk' }) :
    wpAny (model Challenge.rw_ez0041_01.row.prog w) (ktrTop dp un gd cn cs L a ccd cl []) (call (.ref 223) [.ref S, .int 1 wt]) Q E s := by
  revert X XB; k_fill; intro X XB
  have hdp2 : dp + 30 < recursionLimit := Nat.lt_trans hdp (by decide)
  have hun2 : un + 300 < cLine := Nat.lt_trans hun (by decide)
  refine wpAny_call ?_
  k_dflt (walk_at "my_enterS")
  repeat' (first | (k_end; exact ret _ _ _ _ _ _ _ (by assumption) (by assumption) (by assumption)) | (k_unfold; (try dsimp only)) | walk1 | (dsimp only; walk1) | (leave1; walk_say "STEP leave1"; try dsimp only))
  skip

theorem taken2I_ct {w : World} {p : Program} {loose : List Str} {mean : ExcName → Option Value} {mg mb : Str → Option Value}
    {dp un : Nat} {gd : Option (List Code)} {cn : Str} {cs : Scope} {a : Addr} {ccd : Value} {cl : List (Str × Addr)} {A₀ : Around} {base h₀ : Heap} {L : Addr} {m : Str → Option Value} {s : Shared} {Q E : Value → Shared → Prop}
    {S Sd U IT TL : Addr} {h1 h2 h3 h4 h5 : Int} {t1 t2 t3 t4 t5 : Tok} {pv : Value} {pk : Bool} {io : Obj} {i : Nat} {items : Array Value} {tn : Nat} {us : Array Value} {un' : Nat} {ta : Addr} {rest : List (Addr × Obj)} {wt : Tok}
    (B : Below A₀ base [] h₀) (XB : (hd.heap_39 w.params).In base) (TB : Top p loose mean mg mb base) (F : Fr h₀ L s.heap m) (X : (hd.heap_39 w.params).In h₀) (T : Top p loose mean mg mb h₀) (hk : cs.kind = .function)
    (hdp : dp + 30 < 400) (hun : un + 300 < 4000)
    (N : News h₀ L s.heap ((IT, io) :: (U, listOf us un') :: (Sd, sDict h1 h2 h3 h4 h5 t1 t2 t3 t4 t5 U IT pv pk) :: (S, instObj 198 Sd) :: rest))
    (hi : LI io TL i) (hTL : (TL, listOf items tn) ∈ rest) {spot : Nat} (hat : At items i spot pk pv) (hx : items[spot]? = some (.ref ta)) (hus : us.size ≤ 100)
    {va vb : Str} {tva tvb tj tp : Tok} {j hp : Int} {td : Addr} (hta : (ta, tokO 107 td (.str va tva) (.str vb tvb)) ∈ rest) (htd : (td, dictOf [⟨hp, .str (Str.ofString "pos") tp, .int j tj⟩] 1) ∈ rest)
    (la : va.length ≤ 20) (lb : vb.length ≤ 20) (j0 : 0 ≤ j) (j1 : j ≤ 20) (hid : va = Str.ofString "IDENT") (o1 : U ≠ IT) (o2 : Sd ≠ IT) (o3 : S ≠ IT) (o4 : ∀ p ∈ rest, p.1 ≠ IT) (o5 : Sd ≠ U) (o6 : S ≠ U) (o7 : ∀ p ∈ rest, p.1 ≠ U) (o8 : S ≠ Sd) (o9 : ∀ p ∈ rest, p.1 ≠ Sd) (oa : IT ≠ U) (ob : IT ≠ Sd) (oc : U ≠ Sd)
    (ret : ∀ (io' : Obj) pv' y tt  h' tk', Fr h₀ L h' m → News h₀ L h' ((y, (⟨.type "tuple", none, .seq #[.str (Str.ofString "name") tt, .str vb tvb] 0, #[]⟩ : Obj)) :: ((IT, io') :: (U, listOf (us.push (.ref ta)) (un' + 1)) :: (Sd, sDict h1 h2 h3 h4 h5 t1 t2 t3 t4 t5 U IT pv' false) :: (S, instObj 198 Sd) :: rest)) → LI io' TL (spot + 1) → Q (.ref y) { s with heap := h', toks := tk' }) :
    wpAny (model Challenge.rw_ez0041_01.row.prog w) (ktrTop dp un gd cn cs L a ccd cl []) (call (.ref 223) [.ref S, .int 2 wt]) Q E s := by
  revert X XB; k_fill; intro X XB
  have hdp2 : dp + 30 < recursionLimit := Nat.lt_trans hdp (by decide)
  have hun2 : un + 300 < cLine := Nat.lt_trans hun (by decide)
  refine wpAny_call ?_
  k_dflt (walk_at "my_enterS")
  subst hid
  repeat' (first | (k_end; exact ret _ _ _ _ _ _ (by assumption) (by assumption) (by assumption)) | (k_unfold; (try dsimp only)) | walk1 | (dsimp only; walk1) | (leave1; walk_say "STEP leave1"; try dsimp only))
  skip

theorem taken2R_ct {w : World} {p : Program} {loose : List Str} {mean : ExcName → Option Value} {mg mb : Str → Option Value}
    {dp un : Nat} {gd : Option (List Code)} {cn : Str} {cs : Scope} {a : Addr} {ccd : Value} {cl : List (Str × Addr)} {A₀ : Around} {base h₀ : Heap} {L : Addr} {m : Str → Option Value} {s : Shared} {Q E : Value → Shared → Prop}
    {S Sd U IT TL : Addr} {h1 h2 h3 h4 h5 : Int} {t1 t2 t3 t4 t5 : Tok} {pv : Value} {pk : Bool} {io : Obj} {i : Nat} {items : Array Value} {tn : Nat} {us : Array Value} {un' : Nat} {ta : Addr} {rest : List (Addr × Obj)} {wt : Tok}
    (B : Below A₀ base [] h₀) (XB : (hd.heap_39 w.params).In base) (TB : Top p loose mean mg mb base) (F : Fr h₀ L s.heap m) (X : (hd.heap_39 w.params).In h₀) (T : Top p loose mean mg mb h₀) (hk : cs.kind = .function)
    (hdp : dp + 30 < 400) (hun : un + 300 < 4000)
    (N : News h₀ L s.heap ((IT, io) :: (U, listOf us un') :: (Sd, sDict h1 h2 h3 h4 h5 t1 t2 t3 t4 t5 U IT pv pk) :: (S, instObj 198 Sd) :: rest))
    (hi : LI io TL i) (hTL : (TL, listOf items tn) ∈ rest) {spot : Nat} (hat : At items i spot pk pv) (hx : items[spot]? = some (.ref ta)) (hus : us.size ≤ 100)
    {va vb : Str} {tva tvb tj tp : Tok} {j hp : Int} {td : Addr} (hta : (ta, tokO 107 td (.str va tva) (.str vb tvb)) ∈ rest) (htd : (td, dictOf [⟨hp, .str (Str.ofString "pos") tp, .int j tj⟩] 1) ∈ rest)
    (la : va.length ≤ 20) (lb : vb.length ≤ 20) (j0 : 0 ≤ j) (j1 : j ≤ 20) (hid : va ≠ Str.ofString "IDENT") (o1 : U ≠ IT) (o2 : Sd ≠ IT) (o3 : S ≠ IT) (o4 : ∀ p ∈ rest, p.1 ≠ IT) (o5 : Sd ≠ U) (o6 : S ≠ U) (o7 : ∀ p ∈ rest, p.1 ≠ U) (o8 : S ≠ Sd) (o9 : ∀ p ∈ rest, p.1 ≠ Sd) (oa : IT ≠ U) (ob : IT ≠ Sd) (oc : U ≠ Sd)
    (ret : ∀ (io' : Obj) pv' y tt  h' tk', Fr h₀ L h' m → News h₀ L h' ((y, (⟨.type "tuple", none, .seq #[.str (Str.ofString "refused") tt, .none] 0, #[]⟩ : Obj)) :: ((IT, io') :: (U, listOf (us.push (.ref ta)) (un' + 1)) :: (Sd, sDict h1 h2 h3 h4 h5 t1 t2 t3 t4 t5 U IT pv' false) :: (S, instObj 198 Sd) :: rest)) → LI io' TL (spot + 1) → Q (.ref y) { s with heap := h', toks := tk' }) :
    wpAny (model Challenge.rw_ez0041_01.row.prog w) (ktrTop dp un gd cn cs L a ccd cl []) (call (.ref 223) [.ref S, .int 2 wt]) Q E s := by
  revert X XB; k_fill; intro X XB
  have hdp2 : dp + 30 < recursionLimit := Nat.lt_trans hdp (by decide)
  have hun2 : un + 300 < cLine := Nat.lt_trans hun (by decide)
  refine wpAny_call ?_
  k_dflt (walk_at "my_enterS")
  repeat' (first | (exfalso; first | exact bne_absurd (by assumption) (by assumption) | exact beq_absurd (by assumption) (by assumption)) | (k_end; exact ret _ _ _ _ _ _ (by assumption) (by assumption) (by assumption)) | (k_unfold; (try dsimp only)) | walk1 | (dsimp only; walk1) | (leave1; walk_say "STEP leave1"; try dsimp only))
  skip

theorem taken3I_ct {w : World} {p : Program} {loose : List Str} {mean : ExcName → Option Value} {mg mb : Str → Option Value}
    {dp un : Nat} {gd : Option (List Code)} {cn : Str} {cs : Scope} {a : Addr} {ccd : Value} {cl : List (Str × Addr)} {A₀ : Around} {base h₀ : Heap} {L : Addr} {m : Str → Option Value} {s : Shared} {Q E : Value → Shared → Prop}
    {S Sd U IT TL : Addr} {h1 h2 h3 h4 h5 : Int} {t1 t2 t3 t4 t5 : Tok} {pv : Value} {pk : Bool} {io : Obj} {i : Nat} {items : Array Value} {tn : Nat} {us : Array Value} {un' : Nat} {ta : Addr} {rest : List (Addr × Obj)} {wt : Tok}
    (B : Below A₀ base [] h₀) (XB : (hd.heap_39 w.params).In base) (TB : Top p loose mean mg mb base) (F : Fr h₀ L s.heap m) (X : (hd.heap_39 w.params).In h₀) (T : Top p loose mean mg mb h₀) (hk : cs.kind = .function)
    (hdp : dp + 30 < 400) (hun : un + 300 < 4000)
    (N : News h₀ L s.heap ((IT, io) :: (U, listOf us un') :: (Sd, sDict h1 h2 h3 h4 h5 t1 t2 t3 t4 t5 U IT pv pk) :: (S, instObj 198 Sd) :: rest))
    (hi : LI io TL i) (hTL : (TL, listOf items tn) ∈ rest) {spot : Nat} (hat : At items i spot pk pv) (hx : items[spot]? = some (.ref ta)) (hus : us.size ≤ 100)
    {va vb : Str} {tva tvb tj tp : Tok} {j hp : Int} {td : Addr} (hta : (ta, tokO 107 td (.str va tva) (.str vb tvb)) ∈ rest) (htd : (td, dictOf [⟨hp, .str (Str.ofString "pos") tp, .int j tj⟩] 1) ∈ rest)
    (la : va.length ≤ 20) (lb : vb.length ≤ 20) (j0 : 0 ≤ j) (j1 : j ≤ 20) (hid : va = Str.ofString "IDENT") (o1 : U ≠ IT) (o2 : Sd ≠ IT) (o3 : S ≠ IT) (o4 : ∀ p ∈ rest, p.1 ≠ IT) (o5 : Sd ≠ U) (o6 : S ≠ U) (o7 : ∀ p ∈ rest, p.1 ≠ U) (o8 : S ≠ Sd) (o9 : ∀ p ∈ rest, p.1 ≠ Sd) (oa : IT ≠ U) (ob : IT ≠ Sd) (oc : U ≠ Sd)
    (ret : ∀ (io' : Obj) pv' y tt  h' tk', Fr h₀ L h' m → News h₀ L h' ((y, (⟨.type "tuple", none, .seq #[.str (Str.ofString "name") tt, .str vb tvb] 0, #[]⟩ : Obj)) :: ((IT, io') :: (U, listOf (us.push (.ref ta)) (un' + 1)) :: (Sd, sDict h1 h2 h3 h4 h5 t1 t2 t3 t4 t5 U IT pv' false) :: (S, instObj 198 Sd) :: rest)) → LI io' TL (spot + 1) → Q (.ref y) { s with heap := h', toks := tk' }) :
    wpAny (model Challenge.rw_ez0041_01.row.prog w) (ktrTop dp un gd cn cs L a ccd cl []) (call (.ref 223) [.ref S, .int 3 wt]) Q E s := by
  revert X XB; k_fill; intro X XB
  have hdp2 : dp + 30 < recursionLimit := Nat.lt_trans hdp (by decide)
  have hun2 : un + 300 < cLine := Nat.lt_trans hun (by decide)
  refine wpAny_call ?_
  k_dflt (walk_at "my_enterS")
  subst hid
  repeat' (first | (k_end; exact ret _ _ _ _ _ _ (by assumption) (by assumption) (by assumption)) | (k_unfold; (try dsimp only)) | walk1 | (dsimp only; walk1) | (leave1; walk_say "STEP leave1"; try dsimp only))
  skip

theorem taken3R_ct {w : World} {p : Program} {loose : List Str} {mean : ExcName → Option Value} {mg mb : Str → Option Value}
    {dp un : Nat} {gd : Option (List Code)} {cn : Str} {cs : Scope} {a : Addr} {ccd : Value} {cl : List (Str × Addr)} {A₀ : Around} {base h₀ : Heap} {L : Addr} {m : Str → Option Value} {s : Shared} {Q E : Value → Shared → Prop}
    {S Sd U IT TL : Addr} {h1 h2 h3 h4 h5 : Int} {t1 t2 t3 t4 t5 : Tok} {pv : Value} {pk : Bool} {io : Obj} {i : Nat} {items : Array Value} {tn : Nat} {us : Array Value} {un' : Nat} {ta : Addr} {rest : List (Addr × Obj)} {wt : Tok}
    (B : Below A₀ base [] h₀) (XB : (hd.heap_39 w.params).In base) (TB : Top p loose mean mg mb base) (F : Fr h₀ L s.heap m) (X : (hd.heap_39 w.params).In h₀) (T : Top p loose mean mg mb h₀) (hk : cs.kind = .function)
    (hdp : dp + 30 < 400) (hun : un + 300 < 4000)
    (N : News h₀ L s.heap ((IT, io) :: (U, listOf us un') :: (Sd, sDict h1 h2 h3 h4 h5 t1 t2 t3 t4 t5 U IT pv pk) :: (S, instObj 198 Sd) :: rest))
    (hi : LI io TL i) (hTL : (TL, listOf items tn) ∈ rest) {spot : Nat} (hat : At items i spot pk pv) (hx : items[spot]? = some (.ref ta)) (hus : us.size ≤ 100)
    {va vb : Str} {tva tvb tj tp : Tok} {j hp : Int} {td : Addr} (hta : (ta, tokO 107 td (.str va tva) (.str vb tvb)) ∈ rest) (htd : (td, dictOf [⟨hp, .str (Str.ofString "pos") tp, .int j tj⟩] 1) ∈ rest)
    (la : va.length ≤ 20) (lb : vb.length ≤ 20) (j0 : 0 ≤ j) (j1 : j ≤ 20) (hid : va ≠ Str.ofString "IDENT") (hst : ¬ (va = Str.ofString "DELIM" ∧ vb = Str.ofString "*")) (o1 : U ≠ IT) (o2 : Sd ≠ IT) (o3 : S ≠ IT) (o4 : ∀ p ∈ rest, p.1 ≠ IT) (o5 : Sd ≠ U) (o6 : S ≠ U) (o7 : ∀ p ∈ rest, p.1 ≠ U) (o8 : S ≠ Sd) (o9 : ∀ p ∈ rest, p.1 ≠ Sd) (oa : IT ≠ U) (ob : IT ≠ Sd) (oc : U ≠ Sd)
    (ret : ∀ (io' : Obj) pv' y tt  h' tk', Fr h₀ L h' m → News h₀ L h' ((y, (⟨.type "tuple", none, .seq #[.str (Str.ofString "refused") tt, .none] 0, #[]⟩ : Obj)) :: ((IT, io') :: (U, listOf (us.push (.ref ta)) (un' + 1)) :: (Sd, sDict h1 h2 h3 h4 h5 t1 t2 t3 t4 t5 U IT pv' false) :: (S, instObj 198 Sd) :: rest)) → LI io' TL (spot + 1) → Q (.ref y) { s with heap := h', toks := tk' }) :
    wpAny (model Challenge.rw_ez0041_01.row.prog w) (ktrTop dp un gd cn cs L a ccd cl []) (call (.ref 223) [.ref S, .int 3 wt]) Q E s := by
  revert X XB; k_fill; intro X XB
  have hdp2 : dp + 30 < recursionLimit := Nat.lt_trans hdp (by decide)
  have hun2 : un + 300 < cLine := Nat.lt_trans hun (by decide)
  refine wpAny_call ?_
  k_dflt (walk_at "my_enterS")
  repeat' (first | (exfalso; first | exact bne_absurd (by assumption) (by assumption) | exact beq_absurd (by assumption) (by assumption) | exact and_absurd (by assumption) (by assumption)) | (k_end; exact ret _ _ _ _ _ _ (by assumption) (news_drop1 (by assumption)) (by assumption)) | (k_unfold; (try dsimp only)) | walk1 | (dsimp only; walk1) | (leave1; walk_say "STEP leave1"; try dsimp only))
  skip

theorem taken3S_ct {w : World} {p : Program} {loose : List Str} {mean : ExcName → Option Value} {mg mb : Str → Option Value}
    {dp un : Nat} {gd : Option (List Code)} {cn : Str} {cs : Scope} {a : Addr} {ccd : Value} {cl : List (Str × Addr)} {A₀ : Around} {base h₀ : Heap} {L : Addr} {m : Str → Option Value} {s : Shared} {Q E : Value → Shared → Prop}
    {S Sd U IT TL : Addr} {h1 h2 h3 h4 h5 : Int} {t1 t2 t3 t4 t5 : Tok} {pv : Value} {pk : Bool} {io : Obj} {i : Nat} {items : Array Value} {tn : Nat} {us : Array Value} {un' : Nat} {ta : Addr} {rest : List (Addr × Obj)} {wt : Tok}
    (B : Below A₀ base [] h₀) (XB : (hd.heap_39 w.params).In base) (TB : Top p loose mean mg mb base) (F : Fr h₀ L s.heap m) (X : (hd.heap_39 w.params).In h₀) (T : Top p loose mean mg mb h₀) (hk : cs.kind = .function)
    (hdp : dp + 30 < 400) (hun : un + 300 < 4000)
    (N : News h₀ L s.heap ((IT, io) :: (U, listOf us un') :: (Sd, sDict h1 h2 h3 h4 h5 t1 t2 t3 t4 t5 U IT pv pk) :: (S, instObj 198 Sd) :: rest))
    (hi : LI io TL i) (hTL : (TL, listOf items tn) ∈ rest) {spot : Nat} (hat : At items i spot pk pv) (hx : items[spot]? = some (.ref ta)) (hus : us.size ≤ 100)
    {va vb : Str} {tva tvb tj tp : Tok} {j hp : Int} {td : Addr} (hta : (ta, tokO 107 td (.str va tva) (.str vb tvb)) ∈ rest) (htd : (td, dictOf [⟨hp, .str (Str.ofString "pos") tp, .int j tj⟩] 1) ∈ rest)
    (la : va.length ≤ 20) (lb : vb.length ≤ 20) (j0 : 0 ≤ j) (j1 : j ≤ 20) (hid : va = Str.ofString "DELIM") (hst : vb = Str.ofString "*") (o1 : U ≠ IT) (o2 : Sd ≠ IT) (o3 : S ≠ IT) (o4 : ∀ p ∈ rest, p.1 ≠ IT) (o5 : Sd ≠ U) (o6 : S ≠ U) (o7 : ∀ p ∈ rest, p.1 ≠ U) (o8 : S ≠ Sd) (o9 : ∀ p ∈ rest, p.1 ≠ Sd) (oa : IT ≠ U) (ob : IT ≠ Sd) (oc : U ≠ Sd)
    (ret : ∀ (io' : Obj) pv' y tt  h' tk', Fr h₀ L h' m → News h₀ L h' ((y, (⟨.type "tuple", none, .seq #[.str (Str.ofString "name") tt, .none] 0, #[]⟩ : Obj)) :: ((IT, io') :: (U, listOf (us.push (.ref ta)) (un' + 1)) :: (Sd, sDict h1 h2 h3 h4 h5 t1 t2 t3 t4 t5 U IT pv' false) :: (S, instObj 198 Sd) :: rest)) → LI io' TL (spot + 1) → Q (.ref y) { s with heap := h', toks := tk' }) :
    wpAny (model Challenge.rw_ez0041_01.row.prog w) (ktrTop dp un gd cn cs L a ccd cl []) (call (.ref 223) [.ref S, .int 3 wt]) Q E s := by
  revert X XB; k_fill; intro X XB
  have hdp2 : dp + 30 < recursionLimit := Nat.lt_trans hdp (by decide)
  have hun2 : un + 300 < cLine := Nat.lt_trans hun (by decide)
  refine wpAny_call ?_
  k_dflt (walk_at "my_enterS")
  subst hid; subst hst
  repeat' (first | (k_end; exact ret _ _ _ _ _ _ (by assumption) (news_drop1 (by assumption)) (by assumption)) | (k_unfold; (try dsimp only)) | walk1 | (dsimp only; walk1) | (leave1; walk_say "STEP leave1"; try dsimp only))
  skip

end Mine

end
section
theorem Mine.rst_S0 : True := by (w_top off); first | (walk1; done) | trivial
open PySem PySem.W PyProof.Rows PySem.Calls
set_option maxHeartbeats 4000000
namespace Mine

def skipTo (marks : List (Str × Str)) (k : Nat) : Nat := k + ((marks.drop k).takeWhile (fun p => p.1 == Str.ofString "S")).length
theorem skipTo_S {marks : List (Str × Str)} {k : Nat} {va vb : Str} (h : marks[k]? = some (va, vb)) (e : (va == Str.ofString "S") = true) : skipTo marks (k + 1) = skipTo marks k := by
  obtain ⟨hk, hv⟩ := List.getElem?_eq_some_iff.mp h
  unfold skipTo
  rw [List.drop_eq_getElem_cons hk, hv, List.takeWhile_cons, if_pos e, List.length_cons]
  omega
theorem skipTo_other {marks : List (Str × Str)} {k : Nat} {va vb : Str} (h : marks[k]? = some (va, vb)) (e : (va == Str.ofString "S") = false) : skipTo marks k = k := by
  obtain ⟨hk, hv⟩ := List.getElem?_eq_some_iff.mp h
  unfold skipTo
  rw [List.drop_eq_getElem_cons hk, hv, List.takeWhile_cons, if_neg (by simp [e])]
  rfl
theorem skipTo_end {marks : List (Str × Str)} {k : Nat} (h : marks.length ≤ k) : skipTo marks k = k := by
  unfold skipTo
  rw [List.drop_of_length_le h]
  rfl
theorem skipTo_le {marks : List (Str × Str)} {k : Nat} (h : k ≤ marks.length) : skipTo marks k ≤ marks.length := by
  have := (List.takeWhile_sublist (fun p : Str × Str => p.1 == Str.ofString "S") (l := marks.drop k)).length_le
  rw [List.length_drop] at this
  unfold skipTo
  omega
theorem skipTo_ge {marks : List (Str × Str)} {k : Nat} : k ≤ skipTo marks k := by unfold skipTo; omega

structure Toks (rest : List (Addr × Obj)) (items : Array Value) (marks : List (Str × Str)) : Prop where
  size : items.size = marks.length + 1
  few : marks.length ≤ 8
  one : ∀ k va vb, marks[k]? = some (va, vb) → ∃ ta td tva tvb tj tp hp, items[k]? = some (.ref ta) ∧ (ta, tokO 107 td (.str va tva) (.str vb tvb)) ∈ rest ∧ (td, dictOf [⟨hp, .str (Str.ofString "pos") tp, .int (k : Nat) tj⟩] 1) ∈ rest
  eof : ∃ ta td tva tj tp hp, items[marks.length]? = some (.ref ta) ∧ (ta, tokO 135 td (.str (Str.ofString "EOF") tva) .none) ∈ rest ∧ (td, dictOf [⟨hp, .str (Str.ofString "pos") tp, .int (marks.length : Nat) tj⟩] 1) ∈ rest
  short : ∀ m ∈ marks, m.1.length ≤ 20 ∧ m.2.length ≤ 20

theorem whl_inv {prog : Program} {w : World} {A : Around} {E : Value → Shared → Prop} {s : Shared} {env : Env} {test : PySem.Expr} {body orelse : List Stmt} {Q : Flow → Shared → Prop} (J : Nat → Shared → Prop)
    (hE : PassesOwn (model prog w) A env E) (k : Nat) (h0 : J k s)
    (turn : ∀ k s, J k s → wpAny (model prog w) A (isTrue test env (eval test env)) (fun b s₂ => WhlIf b (wpAny (model prog w) A (execs body env) (fun f s₃ => match f with
      | .next => ∃ k', k' < k ∧ J k' s₃
      | .cont => ∃ k', k' < k ∧ J k' s₃
      | .brk => Q .next s₃
      | .ret v => Q (.ret v) s₃) E s₂) (wpAny (model prog w) A (execs orelse env) Q E s₂)) E s) :
    WhlRest prog w A E env test body orelse Q 0 s := by
  induction k using Nat.strongRecOn generalizing s with
  | _ k ih =>
    refine whl_turn (k := 0) hE (wpAny_mono (turn k s h0) (fun b s₂ h => ?_) fun _ _ x => x)
    cases b with
    | false => exact h
    | true =>
      unfold WhlIf at h ⊢
      rw [if_pos rfl] at h ⊢
      refine wpAny_mono h (fun f s₃ h₃ => ?_) fun _ _ x => x
      cases f with
      | next => obtain ⟨k', lt, hj⟩ := h₃; exact ih k' lt hj
      | cont => obtain ⟨k', lt, hj⟩ := h₃; exact ih k' lt hj
      | brk => exact h₃
      | ret v => exact h₃
end Mine

end
section
theorem Mine.rst_S1 : True := by (w_top off); first | (walk1; done) | trivial
open PySem PySem.W PyProof.Rows PySem.Calls
set_option maxHeartbeats 8000000
namespace Mine
local macro_rules | `(tactic| walk_at "eval Name") => `(tactic| (k_here; k_dflt (first | (refine' nameX_L ?F ?v ?_ ?a ?b ?d; (case b => kernel_rfl); (case d => kernel_rfl); (case F => k_asm); (case a => rfl); (case v => rfl); k_whole) | (refine' nameX_C ?N ?c ?m ?d ?_ ?a ?b ?e; (case b => kernel_rfl); (case e => kernel_rfl); (case a => rfl); (case N => k_asm); (case c => rfl); (case m => k_mem); (case d => k_asm); k_whole) | (refine' nameX_K ?F ?X ?T ?e ?_ ?a ?b ?d; (case b => kernel_rfl); (case d => kernel_rfl); (case F => k_asm); (case X => k_asm); (case T => k_asm); (case a => rfl); (case e => k_is); k_whole) | (refine' nameX_B ?F ?X ?T ?e ?v ?n ?_ ?a ?b ?d; (case b => kernel_rfl); (case d => kernel_rfl); (case F => k_asm); (case X => k_asm); (case T => k_asm); (case a => rfl); (case e => k_is); (case v => boot_fast); (case n => decide); k_whole))))
local macro_rules | `(tactic| walk_at "storeName") => `(tactic| (k_here; k_dflt (first | (refine' storeX_L ?F ?N ?_ ?a ?b; (case b => kernel_rfl); (case F => k_asm); (case N => k_asm); (case a => rfl); k_whole; intro h' F' N'; (try k_sweep)) | (refine' storeX_C ?F ?N ?c ?U ?d ?_ ?a ?b; (case b => kernel_rfl); (case a => rfl); (case F => k_asm); (case N => k_asm); (case c => rfl); (case U => k_updF); (case d => k_asm); k_whole; intro h' o' F' N' d'; (try dsimp only at N'); (try k_sweep)))))
local macro_rules | `(tactic| walk_at "spliced") => `(tactic| first | with_reducible refine args_cons ?_ (by with_unfolding_all rfl) | with_reducible refine args_nil ⟨Fr.keep (by assumption) _ _ (by assumption), ?_⟩ | (with_reducible refine args_nil ?_; try simp only [List.cons_append, List.nil_append]))
local macro_rules | `(tactic| k_mem) => `(tactic| assumption)
local macro_rules | `(tactic| k_all) => `(tactic| assumption)
local macro_rules | `(tactic| k_ne) => `(tactic| first | assumption | exact Ne.symm (by assumption))
local macro_rules | `(tactic| k_inst) => `(tactic| (refine' instAt_seq ?N ?h1 ?h2; (case N => k_asm); (case h1 => k_mem); (case h2 => k_mem)))
local macro_rules | `(tactic| walk_at "my_depth") => `(tactic| ((try simp only [depth_under_make, depth_under_kw, depth_in1, depth_deeper, depth_caller]); (try dsimp only [ktrTop]); omega))
local macro_rules | `(tactic| walk_at "my_units") => `(tactic| ((try simp only [units_under_make, units_in1, units_deeper, Around.mark_units, units_caller]); (try dsimp only [ktrTop]); omega))
local macro_rules | `(tactic| walk_at "my_enter") => `(tactic| (refine' code_def ?k1 ?k2 ?k3 ?k4 ?k5 ?kA ?kF ?kK ?k6 ?k7 ?k8 ?k9 ?kB ?_ ?c2 ?c3 ?c4 ?c5; (case kA => exact rfl); (case kF => exact rfl); (case kK => first | assumption | exact rfl); (case k1 => k_asm); (case k2 => k_asm); (case k3 => k_asm); (case k4 => k_asm); (case k5 => k_asm); (case k6 => k_is); (case k7 => k_is); (case k8 => ktr_room); (case k9 => exact BindsTo.of_eq rfl); (case c5 => decide); (case kB => exact locs rfl); (case c2 => exact rfl); (case c3 => exact rfl); (case c4 => exact rfl); k_whole; intro g' L' h' FG' F' N' B' X' T'; (try dsimp only); (try k_lift B'); (try k_fold)))

local macro_rules | `(tactic| walk_at "getAttr ref") => `(tactic| (k_here; (with_reducible show wpAny _ _ (getAttr (Value.ref _) (Str.ofString "type") _) _ _ _); k_dflt ((first | refine' type107_ct (cl := []) ?B ?F ?X ?T ?k ?d ?u ?N ?x ?y ?h ?_ | refine' type135_ct (cl := []) ?B ?F ?X ?T ?k ?d ?u ?N ?x ?y ?h ?_); (case B => k_asm); (case F => k_asm); (case X => k_asm); (case T => k_asm); (case k => first | assumption | rfl); (case d => walk_at "my_depth"); (case u => walk_at "my_units"); (case N => k_asm); (case x => k_mem); (case y => k_mem); (case h => first | assumption | rfl); intro h' tk' F' N')))
local macro_rules | `(tactic| walk_at "getAttr ref") => `(tactic| (k_here; (with_reducible show wpAny _ _ (getAttr (Value.ref _) (Str.ofString "value") _) _ _ _); k_dflt ((first | refine' value107_ct (cl := []) ?B ?F ?X ?T ?k ?d ?u ?N ?x ?y ?h ?_ | refine' value135_ct (cl := []) ?B ?F ?X ?T ?k ?d ?u ?N ?x ?y ?h ?_); (case B => k_asm); (case F => k_asm); (case X => k_asm); (case T => k_asm); (case k => first | assumption | rfl); (case d => walk_at "my_depth"); (case u => walk_at "my_units"); (case N => k_asm); (case x => k_mem); (case y => k_mem); (case h => first | assumption | rfl); intro h' tk' F' N')))
local macro_rules | `(tactic| walk_at "getAttr ref") => `(tactic| (k_here; (with_reducible show wpAny _ _ (getAttr (Value.ref _) (Str.ofString "pos") _) _ _ _); k_dflt (refine' tok_own ?F ?X ?I ?g ?h ?m ?hd ?a ?n ?l ?hh ?_; (case F => k_asm); (case X => k_asm); (case I => k_inst); (case g => k_is); (case h => k_is); (case m => k_is); (case hd => k_is); (case a => k_is); (case n => k_is); (case l => k_get); (case hh => k_handed); k_whole)))
local macro_rules | `(tactic| walk_at "ite") => `(tactic| (k_closed; first | (with_reducible refine my_iteT (by with_unfolding_all rfl) ?_) | (with_reducible refine my_iteF (by with_unfolding_all rfl) ?_)))

local macro_rules | `(tactic| walk_at "my_enterS") => `(tactic| (refine' code_defX0 ?k1 ?k2 ?k3 ?k4 ?k5 ?kA ?kF ?kK ?k6 ?k7 ?k8 ?k9 ?kB ?_ ?c2 ?c3 ?c4 ?c5; (case kA => exact rfl); (case kF => exact rfl); (case kK => first | assumption | exact rfl); (case k1 => k_asm); (case k2 => k_asm); (case k3 => k_asm); (case k4 => k_asm); (case k5 => k_asm); (case k6 => k_is); (case k7 => k_is); (case k8 => ktr_room); (case k9 => exact BindsTo.of_eq rfl); (case c5 => decide); (case kB => exact locs rfl); (case c2 => exact rfl); (case c3 => exact rfl); (case c4 => exact rfl); k_whole; intro g' L' h' FG' F' N' B' X' T' D'; (try dsimp only); (try k_lift B'); (try k_fold)))
local macro_rules | `(tactic| walk_at "call ref") => `(tactic| (k_here; k_dflt (refine wpAny_call ?_; walk_at "my_enter")))
local macro_rules | `(tactic| walk_at "call ref") => `(tactic| (k_here; k_dflt ((show wpAny _ _ (call (Value.ref 74) [Value.ref _]) _ _ _); (refine' repr_ct (cl := []) ?B ?F ?X ?T ?k ?d ?u ?N ?x ?y ?la ?lb ?j0 ?j1 ?_; (case B => k_asm); (case F => k_asm); (case X => k_asm); (case T => k_asm); (case k => first | assumption | rfl); (case d => walk_at "my_depth"); (case u => walk_at "my_units"); (case N => k_asm); (case x => k_mem); (case y => k_mem); (case la => assumption); (case lb => assumption); (case j0 => assumption); (case j1 => assumption); intro y' t' h' tk' F' N' ly')); (try dsimp only [StrBack])))
local macro_rules | `(tactic| walk_at "call ref") => `(tactic| (k_here; k_dflt ((show wpAny _ _ (call (Value.ref 167) [Value.ref _]) _ _ _); (refine' next_ct (cl := []) ?B ?F ?X ?T ?k ?d ?u ?N ?i ?l ?a ?x ?s ?o1 ?o2 ?o3 ?o4 ?o5 ?o6 ?o7 ?o8 ?o9 ?oa ?ob ?oc ?_; (case B => k_asm); (case F => k_asm); (case X => k_asm); (case T => k_asm); (case k => first | assumption | rfl); (case d => ktr_room); (case u => ktr_units); (case N => k_asm); (case i => k_asm); (case l => k_mem); (case a => assumption); (case x => assumption); (case s => assumption); (all_goals (try assumption)); intro io' pv' h' tk' F' N' hi')); (try dsimp only)))
local macro_rules | `(tactic| walk_at "call ref") => `(tactic| (k_here; k_dflt ((show wpAny _ _ (call (Value.ref 174) [Value.ref _]) _ _ _); (refine' peek_ct (cl := []) ?B ?F ?X ?T ?k ?d ?u ?N ?i ?l ?a ?x ?o1 ?o2 ?o3 ?o4 ?o5 ?o6 ?o7 ?o8 ?o9 ?oa ?ob ?oc ?_; (case B => k_asm); (case F => k_asm); (case X => k_asm); (case T => k_asm); (case k => first | assumption | rfl); (case d => ktr_room); (case u => ktr_units); (case N => k_asm); (case i => k_asm); (case l => k_mem); (case a => assumption); (case x => assumption); (all_goals (try assumption)); intro io' h' tk' F' N' hi')); (try dsimp only)))
local macro_rules | `(tactic| walk_at "formatField ref") => `(tactic| (k_here; (with_reducible show wpAny _ _ (formatField (Value.ref _) _) _ _ _); k_dflt (refine' kfo_fieldR ?u ?v ?X ?I ?g ?m ?s ?r ?f ?_; (case u => ktr_units); (case v => ktr_units); (case X => k_in); (case I => k_inst); (case s => k_is); (case r => k_is); (case f => k_is); (case g => k_is); (case m => k_is); k_whole)))
local macro_rules | `(tactic| walk_at "call type:tuple") => `(tactic| (k_here; (with_reducible show wpAny _ _ (call (Value.type "tuple") [Value.ref _]) _ _ _); k_dflt ((first | refine' tup107_N ?h ?d ?f ?u ?F ?X ?N ?T ?_ | refine' tup135_N ?h ?d ?f ?u ?F ?X ?N ?T ?_); (case h => rfl); (case d => walk_at "my_depth"); (case f => rfl); (case u => walk_at "my_units"); (case F => k_asm); (case X => k_asm); (case N => k_asm); (case T => k_mem); intro y' h' tk' F' N' n1)))

local macro_rules | `(tactic| walk_at "getAttr ref") => `(tactic| (k_here; (with_reducible show wpAny _ _ (getAttr (Value.ref _) (Str.ofString "type") _) _ _ _); k_dflt ((refine' type135_ct (cl := []) ?B ?F ?X ?T ?k ?d ?u ?N ?x ?y ?h ?_); (case B => k_asm); (case F => k_asm); (case X => k_asm); (case T => k_asm); (case k => first | assumption | rfl); (case d => walk_at "my_depth"); (case u => walk_at "my_units"); (case N => k_asm); (case x => k_mem); (case y => k_mem); (case h => first | assumption | rfl); intro h' tk' F' N')))
local macro_rules | `(tactic| walk_at "getAttr ref") => `(tactic| (k_here; (with_reducible show wpAny _ _ (getAttr (Value.ref _) (Str.ofString "value") _) _ _ _); k_dflt ((refine' value135_ct (cl := []) ?B ?F ?X ?T ?k ?d ?u ?N ?x ?y ?h ?_); (case B => k_asm); (case F => k_asm); (case X => k_asm); (case T => k_asm); (case k => first | assumption | rfl); (case d => walk_at "my_depth"); (case u => walk_at "my_units"); (case N => k_asm); (case x => k_mem); (case y => k_mem); (case h => first | assumption | rfl); intro h' tk' F' N')))

theorem take_push {items : Array Value} {k : Nat} {v : Value} (h : items[k]? = some v) : (items.toList.take k).toArray.push v = (items.toList.take (k + 1)).toArray := by
  obtain ⟨hk, hv⟩ := Array.getElem?_eq_some_iff.mp h
  rw [List.take_succ_eq_append_getElem (by simpa using hk)]
  simp [hv]

def SkipJ (h₀ : Heap) (L : Addr) (m : Str → Option Value) (S Sd U IT TL : Addr) (h1 h2 h3 h4 h5 : Int) (t1 t2 t3 t4 t5 : Tok) (rest : List (Addr × Obj)) (items : Array Value) (marks : List (Str × Str)) (spot₀ : Nat) (s : Shared) (k : Nat) (s' : Shared) : Prop :=
  ∃ (spot : Nat) (io : Obj) (i : Nat) (pv : Value) (pk : Bool) (un' : Nat) (h : Heap) (tk : Nat), s' = { s with heap := h, toks := tk } ∧ k = marks.length + 1 - spot ∧ Fr h₀ L h m ∧
    News h₀ L h ((IT, io) :: (U, listOf (items.toList.take spot).toArray un') :: (Sd, sDict h1 h2 h3 h4 h5 t1 t2 t3 t4 t5 U IT pv pk) :: (S, instObj 198 Sd) :: rest) ∧ LI io TL i ∧ At items i spot pk pv ∧ spot ≤ marks.length ∧ skipTo marks spot = skipTo marks spot₀
theorem whl_invS {h₀ h : Heap} {L : Addr} {m : Str → Option Value} {prog : Program} {w : World} {A : Around} {E : Value → Shared → Prop} {s : Shared} {env : Env} {test : PySem.Expr} {body orelse : List Stmt} {Q : Flow → Shared → Prop} (F : Fr h₀ L h m) (J : (Str → Option Value) → Nat → Shared → Prop)
    (hE : PassesOwn (model prog w) A env E) (k : Nat) (h0 : J m k s)
    (turn : ∀ k s, J m k s → wpAny (model prog w) A (isTrue test env (eval test env)) (fun b s₂ => WhlIf b (wpAny (model prog w) A (execs body env) (fun f s₃ => match f with
      | .next => ∃ k', k' < k ∧ J m k' s₃
      | .cont => ∃ k', k' < k ∧ J m k' s₃
      | .brk => Q .next s₃
      | .ret v => Q (.ret v) s₃) E s₂) (wpAny (model prog w) A (execs orelse env) Q E s₂)) E s) :
    WhlRest prog w A E env test body orelse Q 0 s := whl_inv (J m) hE k h0 turn


theorem skip_ct {w : World} {p : Program} {loose : List Str} {mean : ExcName → Option Value} {mg mb : Str → Option Value}
    {dp un : Nat} {gd : Option (List Code)} {cn : Str} {cs : Scope} {a : Addr} {ccd : Value} {cl : List (Str × Addr)} {A₀ : Around} {base h₀ : Heap} {L : Addr} {m : Str → Option Value} {s : Shared} {Q E : Value → Shared → Prop}
    {S Sd U IT TL : Addr} {h1 h2 h3 h4 h5 : Int} {t1 t2 t3 t4 t5 : Tok} {pv : Value} {pk : Bool} {io : Obj} {i : Nat} {items : Array Value} {tn : Nat} {us : Array Value} {un' : Nat} {ta : Addr} {rest : List (Addr × Obj)} {wt : Tok}
    (B : Below A₀ base [] h₀) (XB : (hd.heap_39 w.params).In base) (TB : Top p loose mean mg mb base) (F : Fr h₀ L s.heap m) (X : (hd.heap_39 w.params).In h₀) (T : Top p loose mean mg mb h₀) (hk : cs.kind = .function)
    (hdp : dp + 30 < 400) (hun : un + 300 < 4000)
    (N : News h₀ L s.heap ((IT, io) :: (U, listOf us un') :: (Sd, sDict h1 h2 h3 h4 h5 t1 t2 t3 t4 t5 U IT pv pk) :: (S, instObj 198 Sd) :: rest))
    (hi : LI io TL i) (hTL : (TL, listOf items tn) ∈ rest) {spot : Nat} (hat : At items i spot pk pv) {marks : List (Str × Str)} (K : Toks rest items marks) (hsp : spot ≤ marks.length) (hus : us = (items.toList.take spot).toArray) (o1 : U ≠ IT) (o2 : Sd ≠ IT) (o3 : S ≠ IT) (o4 : ∀ p ∈ rest, p.1 ≠ IT) (o5 : Sd ≠ U) (o6 : S ≠ U) (o7 : ∀ p ∈ rest, p.1 ≠ U) (o8 : S ≠ Sd) (o9 : ∀ p ∈ rest, p.1 ≠ Sd) (oa : IT ≠ U) (ob : IT ≠ Sd) (oc : U ≠ Sd)
    (ret : ∀ (io' : Obj) (pv' : Value) (us' : Array Value) (un'' : Nat) (h' : Heap) (tk' : Nat), Fr h₀ L h' m → News h₀ L h' ((IT, io') :: (U, listOf us' un'') :: (Sd, sDict h1 h2 h3 h4 h5 t1 t2 t3 t4 t5 U IT pv' true) :: (S, instObj 198 Sd) :: rest) → LI io' TL (skipTo marks spot + 1) → At items (skipTo marks spot + 1) (skipTo marks spot) true pv' → us' = (items.toList.take (skipTo marks spot)).toArray → Q .none { s with heap := h', toks := tk' }) :
    wpAny (model Challenge.rw_ez0041_01.row.prog w) (ktrTop dp un gd cn cs L a ccd cl []) (call (.ref 195) [.ref S]) Q E s := by
  revert X XB; k_fill; intro X XB
  have hdp2 : dp + 30 < recursionLimit := Nat.lt_trans hdp (by decide)
  have hun2 : un + 300 < cLine := Nat.lt_trans hun (by decide)
  refine wpAny_call ?_
  k_dflt (refine' code_def ?k1 ?k2 ?k3 ?k4 ?k5 ?kA ?kF ?kK ?k6 ?k7 ?k8 ?k9 ?kB ?_ ?c2 ?c3 ?c4 ?c5; (case kA => exact rfl); (case kF => exact rfl); (case kK => first | assumption | exact rfl); (case k1 => k_asm); (case k2 => k_asm); (case k3 => k_asm); (case k4 => k_asm); (case k5 => k_asm); (case k6 => k_is); (case k7 => k_is); (case k8 => ktr_room); (case k9 => exact BindsTo.of_eq rfl); (case c5 => decide); (case kB => exact locs rfl); (case c2 => exact rfl); (case c3 => exact rfl); (case c4 => exact rfl); k_whole; intro g' L' h' FG' F' N' B' X' T'; (try dsimp only); (try k_lift B'); (try k_fold))
  iterate 2 (first | (k_unfold; (try dsimp only)) | walk1 | (dsimp only; walk1) | (leave1; walk_say "STEP leave1"; try dsimp only))
  refine whl_start 0 ?_
  refine' whl_invS F' (fun mm => SkipJ g' L' mm S Sd U IT TL h1 h2 h3 h4 h5 t1 t2 t3 t4 t5 rest items marks spot s) ?hE (marks.length + 1 - spot) ?h0 ?turn
  case hE => first | passes_own | with_unfolding_all passes_own
  case h0 => exact ⟨spot, io, i, pv, pk, un', _, _, rfl, rfl, F', hus ▸ N', hi, hat, hsp, rfl⟩
  case turn =>
  dsimp only
  clear N F hat hi hus F' N'
  rintro kk s₂ ⟨sp, io2, i2, pv2, pk2, un2, hh, tk2, rfl, hkk, F2, N2, hi2, hat2, hsp2, hskip⟩
  have hus2 : (items.toList.take sp).toArray.size ≤ 100 := by
    have := K.few
    simp only [List.size_toArray, List.length_take]
    omega
  rcases Nat.lt_or_ge sp marks.length with hlt | hge
  · obtain ⟨⟨va, vb⟩, hm⟩ : ∃ q, marks[sp]? = some q := ⟨marks[sp], List.getElem?_eq_getElem hlt⟩
    obtain ⟨ta, td, tva, tvb, tj, tp, hp, hx, hta, htd⟩ := K.one _ _ _ hm
    repeat' (first | (k_unfold; (try dsimp only)) | walk1 | (dsimp only; walk1) | (leave1; walk_say "STEP leave1"; try dsimp only))
    cases hS : va == Str.ofString "S" with
    | true =>
      have hat3 : At items (sp + 1) sp true (.ref ta) := ⟨rfl, hx⟩
      refine WhlIf.yes rfl ?_
      repeat' (first | ((try dsimp only); (with_reducible show ∃ k' : Nat, _); exact ⟨marks.length + 1 - (sp + 1), by omega, sp + 1, _, _, _, false, _, _, _, rfl, rfl, by assumption, (by rw [← take_push hx]; assumption), by assumption, rfl, hlt, (skipTo_S hm hS).trans hskip⟩) | (first | (k_unfold; (try dsimp only)) | walk1 | (dsimp only; walk1) | (leave1; walk_say "STEP leave1"; try dsimp only)))
    | false =>
      have e : skipTo marks spot = sp := hskip.symm.trans (skipTo_other hm hS)
      rw [e] at ret
      refine WhlIf.no rfl ?_
      repeat' (first | (k_end; exact ret _ _ _ _ _ _ (by assumption) (by assumption) (by assumption) ⟨rfl, hx⟩ rfl) | (first | (k_unfold; (try dsimp only)) | walk1 | (dsimp only; walk1) | (leave1; walk_say "STEP leave1"; try dsimp only)))
  · have hge' : sp = marks.length := Nat.le_antisymm hsp2 hge
    obtain ⟨ta, td, tva, tj, tp, hp, hx, hta, htd⟩ := K.eof
    have e : skipTo marks spot = sp := hskip.symm.trans (skipTo_end hge)
    rw [e] at ret
    subst hge'
    repeat' (first | (k_end; exact ret _ _ _ _ _ _ (by assumption) (by assumption) (by assumption) ⟨rfl, hx⟩ rfl) | (first | (k_unfold; (try dsimp only)) | walk1 | (dsimp only; walk1) | (leave1; walk_say "STEP leave1"; try dsimp only)))
end Mine

end
section
theorem Mine.rst_E1 : True := by (w_top off); first | (walk1; done) | trivial
open PySem PySem.W PyProof.Rows PySem.Calls PySem.Spec PyProof.Rows.LCg
set_option maxHeartbeats 4000000
namespace Mine
section
variable {prog : Program} {w : World} {A : Around} {E : Value → Shared → Prop} {s : Shared} {h₀ : Heap} {L : Addr} {m : Str → Option Value} {env : Env}

def EnTurn (prog : Program) (w : World) (A : Around) (h₀ : Heap) (L : Addr) (m : Str → Option Value) (env : Env) (elt : PySem.Expr) (a b : Str) (scope : Scope) (cl : List (Str × Addr)) (s : Shared) (items : Array Value) (J : Nat → List Value → List (Addr × Obj) → Prop) : Prop :=
  ∀ (i : Nat) (ys : List Value) (news : List (Addr × Obj)) (x : Value) (t : Tok) (e : Addr) (oe : Obj) (it : Addr) (oit : Obj) (C : Addr) (oC : Obj) (D : Addr) (m₂ : Str → Option Value) (h : Heap) (tk : Nat) (E' : Value → Shared → Prop),
    i < items.size → items[i]? = some x → ys.length = i → J i ys news → NsObj oC m₂ → m₂ a = some (.int i t) → m₂ b = some x → Fr h₀ L h m → News h₀ L h ((e, oe) :: (it, oit) :: (C, oC) :: (D, lst ys) :: news) →
    wpAny (model prog w) A (eval elt (compEnvC scope cl C env)) (fun y s' => ∃ (h' : Heap) (tk' : Nat) (own : List (Addr × Obj)), s' = { s with heap := h', toks := tk' } ∧ Fr h₀ L h' m ∧
      News h₀ L h' (own ++ (e, oe) :: (it, oit) :: (C, oC) :: (D, lst ys) :: news) ∧ (∀ p ∈ own, p.1 ≠ e ∧ p.1 ≠ it ∧ p.1 ≠ C ∧ p.1 ≠ D) ∧ J (i + 1) (ys ++ [y]) (own ++ news)) E' { s with heap := h, toks := tk }

theorem en_block {elt iter : PySem.Expr} {a b : Str} {pa pb tp : Pos} {kk : Nat} {scope : Scope} {cl : List (Str × Addr)} {pos : Pos} {s₂ : Shared} {e it l : Addr} {items : Array Value} {lo : Obj} {news : List (Addr × Obj)} {J : Nat → List Value → List (Addr × Obj) → Prop}
    {RR : Value → Addr → Result → Shared → Prop}
    (hh : A.handled = none) (hei : e ≠ it) (hle : l ≠ e) (hli : l ≠ it) (hsz : items.size ≤ sizeLine) (hlo : lo.cls = .type "list") (hlo2 : ∃ n, lo.data = .seq items n)
    (he : IsEnum s₂.heap e it 0 .none) (hit : s₂.heap.IsListIter it l 0)
    (hcell : ∀ y ∈ scope.names, y.2 ≠ .cell) (hkind : scope.kind = .function) (hxa : scope.names.lookup a = some .local) (hxb : scope.names.lookup b = some .local) (hab : ¬ a = b)
    (F : Fr h₀ L s₂.heap m) (N : News h₀ L s₂.heap news) (hl : (l, lo) ∈ news) (hIL : L ≠ e) (hIL2 : L ≠ it) (hI₀ : h₀.get? e = none) (hI₂ : h₀.get? it = none) (off : ∀ p ∈ news, p.1 ≠ e ∧ p.1 ≠ it)
    (J0 : J 0 [] news) (R : EnTurn prog w A h₀ L m env elt a b scope cl s₂ items J)
    (hRR : ∀ D C h tk m' ys news', Fr h₀ L h m → News h₀ L h ((D, lst ys) :: news') → (∀ p ∈ news', p.1 ≠ D) → h.Ns C m' → h₀.get? C = none → h₀.get? D = none → C ≠ L → D ≠ L → C ≠ D → (∀ p ∈ news', p.1 ≠ C) → J items.size ys news' → RR (.ref D) C (.ok .next) { s₂ with heap := h, toks := tk }) :
    wpAny (model prog w) A (newList []) (fun acc s₃ => wpAny (model prog w) A (newFunctionEnv scope env.globals cl [] env.qual none .none (some env)) (fun cenv s₄ =>
      codeAny (model prog w) A (.compStart (.ListComp elt [⟨.Tuple [.Name a pa, .Name b pb] kk tp, iter, [], 0⟩] scope pos) 0 (.ref e) acc { cenv with scope := relabel scope env }) (RR acc cenv.locals) s₄) E s₃) E s₂ := by
  refine wpAny_newObj_type (wpAny_newFunctionEnv hcell (by intro y hy; simp at hy) (fun h₁ hns₁ hsb₁ => ?_) hkind)
  dsimp only at hns₁ hsb₁ ⊢
  generalize hH2 : s₂.heap.push { cls := .type "list", dict := none, data := .seq ([] : List Value).toArray } = H2 at hns₁ hsb₁ ⊢
  have hC : H2.objs.size = s₂.heap.objs.size + 1 := by rw [← hH2, Heap.size_push]
  have hDC : s₂.heap.objs.size ≠ H2.objs.size := by rw [hC]; exact Nat.ne_of_lt (Nat.lt_succ_self _)
  have below : ∀ b, b < s₂.heap.objs.size → b ≠ H2.objs.size ∧ b ≠ s₂.heap.objs.size := fun b hb => ⟨by rw [hC]; exact Nat.ne_of_lt (Nat.lt_succ_of_lt hb), Nat.ne_of_lt hb⟩
  have hElt : e < s₂.heap.objs.size := Heap.lt_size he
  have hIlt : it < s₂.heap.objs.size := by obtain ⟨_, x, _⟩ := hit; exact Heap.lt_size x
  have old : ∀ b o, s₂.heap.get? b = some o → h₁.get? b = some o := fun b o e => hsb₁.extBut b o (below b (Heap.lt_size e)).1 (Heap.get?_push_of_some _ (hH2 ▸ Heap.get?_push_of_some _ e))
  have hacc : h₁.get? s₂.heap.objs.size = some (lst []) := hsb₁.extBut _ _ hDC (Heap.get?_push_of_some _ (hH2 ▸ Heap.get?_push_size _ rfl))
  have he₁ : IsEnum h₁ e it 0 .none := old _ _ he
  have hit₁ : h₁.IsListIter it l 0 := hit.at fun o x => old _ _ x
  have fresh : ∀ a, s₂.heap.objs.size ≤ a → s₂.heap.get? a = none := fun a ha => by
    cases e : s₂.heap.get? a with
    | none => rfl
    | some o' => exact absurd (Heap.lt_size e) (Nat.not_lt.mpr ha)
  have fresh₀ : ∀ a, s₂.heap.objs.size ≤ a → h₀.get? a = none := fun a ha => by
    cases e : h₀.get? a with
    | none => rfl
    | some o' => have := F.keep a o' e; rw [fresh a ha] at this; cases this
  have hD₀ : h₀.get? s₂.heap.objs.size = none := fresh₀ _ (Nat.le_refl _)
  have hC₀ : h₀.get? H2.objs.size = none := fresh₀ _ (by rw [hC]; exact Nat.le_succ _)
  have hLlt : L < s₂.heap.objs.size := F.ns.lt
  have hDL : s₂.heap.objs.size ≠ L := Ne.symm (below L hLlt).2
  have hCL : H2.objs.size ≠ L := Ne.symm (below L hLlt).1
  have hCE : e ≠ H2.objs.size := (below e hElt).1
  have hDE : e ≠ s₂.heap.objs.size := (below e hElt).2
  have hCI : it ≠ H2.objs.size := (below it hIlt).1
  have hDI : it ≠ s₂.heap.objs.size := (below it hIlt).2
  have off₀ : ∀ p ∈ news, p.1 ≠ e ∧ p.1 ≠ it ∧ p.1 ≠ H2.objs.size ∧ p.1 ≠ s₂.heap.objs.size := fun p hp => ⟨(off p hp).1, (off p hp).2, (below _ (Heap.lt_size (N p hp).1)).1, (below _ (Heap.lt_size (N p hp).1)).2⟩
  have W := WalksT.enumerate (prog := prog) (w := w) hh e it l hei hle hli items
  have loop : ∀ s₃ : Shared, s₃ = { s₂ with heap := h₁, toks := s₂.toks + ([] : List (Str × Value)).length } →
      codeAny (model prog w) A (.compLoop (.ListComp elt [⟨.Tuple [.Name a pa, .Name b pb] kk tp, iter, [], 0⟩] scope pos) 0 (.ref e) (.ref s₂.heap.objs.size) (compEnvC scope cl H2.objs.size env))
        (RR (.ref s₂.heap.objs.size) H2.objs.size) s₃ := by
    rintro s₃ rfl
    refine kcp_loop
      (fun k s' => ∃ h' tk i ys m' news', s' = { s₂ with heap := h', toks := tk } ∧ i ≤ items.size ∧ k = items.size + 1 - i ∧ ys.length = i ∧ (∃ old, IsEnum h' e it i old) ∧ h'.IsListIter it l i ∧ Fr h₀ L h' m ∧ h'.Ns H2.objs.size m' ∧
        News h₀ L h' ((s₂.heap.objs.size, lst ys) :: news') ∧ (∀ p ∈ news', p.1 ≠ e ∧ p.1 ≠ it ∧ p.1 ≠ H2.objs.size ∧ p.1 ≠ s₂.heap.objs.size) ∧ (l, lo) ∈ news' ∧ J i ys news') ?_ (items.size + 1)
      ⟨h₁, _, 0, [], _, news, rfl, Nat.zero_le _, rfl, rfl, ⟨_, he₁⟩, hit₁, F.keeps old, hns₁, fun p hp => ?_, off₀, hl, J0⟩
    · rintro k s' ⟨h', tk, i, ys, m', news', rfl, hi, rfl, hyl, he', hit', F', hn', N', off', hl', J'⟩
      have hL' : h'.IsList l items := ⟨lo, (N' _ (List.mem_cons_of_mem _ hl')).1, hlo, hlo2⟩
      by_cases hlt : i < items.size
      · refine W.item i _ _ _ hlt ⟨he', hit', hL'⟩ fun T vals h₂ tk₂ hPt hT2 hTup hMd hk₂ => ?_
        obtain ⟨t, x, hx, rfl⟩ := hPt
        have hap := W.apart _ _ _ hMd
        refine W.go _ kk tp i T _ _ _ hMd fun h₃ hst₃ hk₃ => ?_
        have hTup₃ : h₃.IsTuple T #[.int i t, x] := hTup.at fun o x => hk₃ T o hap x
        have up₃ : ∀ c o, c ≠ e → c ≠ it → h'.get? c = some o → h₃.get? c = some o := fun c o hc hc2 x => hk₃ c o (by simp [hc, hc2]) (hk₂ c o (by simp [hc, hc2]) x)
        refine kcp_assign (env := compEnvC scope cl H2.objs.size env) hh hTup₃ (lookup_relabel_local hxa) (lookup_relabel_local hxb) (by simp [compEnvC, relabel, hkind]) (hn'.at' fun o x => up₃ _ o (Ne.symm hCE) (Ne.symm hCI) x) fun h₄ tk₄ hn₄ hs₄ => ?_
        have up : ∀ c o, c ≠ e → c ≠ it → c ≠ H2.objs.size → h'.get? c = some o → h₄.get? c = some o := fun c o h1 h2 h3 x => hs₄ c o h3 (up₃ c o h1 h2 x)
        obtain ⟨⟨old₃, hE₃⟩, hI₃, _⟩ := hst₃
        have hE₄ : IsEnum h₄ e it (i + 1 : Nat) old₃ := hs₄ e _ hCE hE₃
        obtain ⟨oI, heI, hcI, hdI⟩ := hI₃
        have heI₄ : h₄.get? it = some oI := hs₄ it _ hCI heI
        obtain ⟨oE, heE, hoE⟩ : ∃ oE : Obj, h₄.get? e = some oE ∧ ∀ h : Heap, h.get? e = some oE → IsEnum h e it (i + 1 : Nat) old₃ := ⟨_, hE₄, fun _ x => x⟩
        obtain ⟨oC, heC, hoC⟩ := ns_obj hn₄
        have F₄ : Fr h₀ L h₄ m := ⟨F'.ns.at' fun o x => up _ o hIL hIL2 (Ne.symm hCL) x, fun c o x => up c o (fun q => by rw [q, hI₀] at x; cases x) (fun q => by rw [q, hI₂] at x; cases x) (fun q => by rw [q, hC₀] at x; cases x) (F'.keep c o x), F'.above⟩
        have N₄ : News h₀ L h₄ ((e, oE) :: (it, oI) :: (H2.objs.size, oC) :: (s₂.heap.objs.size, lst ys) :: news') := fun q hq => by
          rcases List.mem_cons.mp hq with rfl | hq
          · exact ⟨heE, Ne.symm hIL, hI₀⟩
          · rcases List.mem_cons.mp hq with rfl | hq
            · exact ⟨heI₄, Ne.symm hIL2, hI₂⟩
            · rcases List.mem_cons.mp hq with rfl | hq
              · exact ⟨heC, hCL, hC₀⟩
              · have z := N' q hq
                refine ⟨up _ _ ?_ ?_ ?_ z.1, z.2⟩
                · rcases List.mem_cons.mp hq with rfl | hq
                  · exact Ne.symm hDE
                  · exact (off' q hq).1
                · rcases List.mem_cons.mp hq with rfl | hq
                  · exact Ne.symm hDI
                  · exact (off' q hq).2.1
                · rcases List.mem_cons.mp hq with rfl | hq
                  · exact hDC
                  · exact (off' q hq).2.2.1
        refine wpAny_mono (R i ys news' x t e oE it oI H2.objs.size oC s₂.heap.objs.size _ h₄ _ _ hlt hx hyl J' hoC (by simp [hab]) (by simp) F₄ N₄) (fun y s₅ h₅ => ?_) fun _ _ x => x
        obtain ⟨h₅, tk₅, own, rfl, F₅, N₅, off₅, J₅⟩ := h₅
        have zE := (N₅ (e, oE) (by simp)).1
        have zI := (N₅ (it, oI) (by simp)).1
        have zC := (N₅ (H2.objs.size, oC) (by simp)).1
        have zD := (N₅ (s₂.heap.objs.size, lst ys) (by simp)).1
        have N₅' : News h₀ L h₅ (own ++ news') := fun q hq => N₅ q (by rcases List.mem_append.mp hq with h | h <;> simp [h])
        have off₅' : ∀ p ∈ own ++ news', p.1 ≠ e ∧ p.1 ≠ it ∧ p.1 ≠ H2.objs.size ∧ p.1 ≠ s₂.heap.objs.size := fun p hp => by
          rcases List.mem_append.mp hp with h | h
          · exact off₅ p h
          · exact off' p h
        refine append_at (hsz := by show ys.toArray.size ≤ sizeLine; rw [List.size_toArray, hyl]; exact Nat.le_trans hi hsz) zD fun h₆ hs₆ hD₆ => ?_
        refine ⟨items.size + 1 - (i + 1), by omega, h₆, tk₅, i + 1, ys ++ [y], _, own ++ news', rfl, hlt, rfl, by rw [List.length_append, List.length_singleton, hyl], ⟨_, hoE h₆ (hs₆.extBut e oE hDE zE)⟩, ⟨oI, hs₆.extBut it oI hDI zI, hcI, hdI⟩, F₅.change hs₆ hDL hD₀,
          (hoC.ns zC).sameBut hs₆ (Ne.symm hDC), fun q hq => ?_, off₅', List.mem_append_right _ hl', J₅⟩
        rcases List.mem_cons.mp hq with rfl | hq
        · exact ⟨hD₆.trans (congrArg some (lst_snoc ys y)), hDL, hD₀⟩
        · exact ⟨hs₆.extBut _ _ (off₅' q hq).2.2.2 (N₅' q hq).1, (N₅' q hq).2⟩
      · have hin : i = items.size := Nat.le_antisymm hi (Nat.not_lt.mp hlt)
        subst hin
        refine W.done _ _ _ ⟨he', hit', hL'⟩ fun h₂ tk₂ hk₂ => ?_
        have up : ∀ c o, c ≠ e → c ≠ it → h'.get? c = some o → h₂.get? c = some o := fun c o hc hc2 x => hk₂ c o (by simp [hc, hc2]) x
        refine hRR _ _ h₂ tk₂ _ ys news' ⟨F'.ns.at' fun o x => up _ o hIL hIL2 x, fun c o x => up c o (fun q => by rw [q, hI₀] at x; cases x) (fun q => by rw [q, hI₂] at x; cases x) (F'.keep c o x), F'.above⟩ (fun q hq => ?_) (fun p hp => (off' p hp).2.2.2)
          (hn'.at' fun o x => up _ o (Ne.symm hCE) (Ne.symm hCI) x) hC₀ hD₀ hCL hDL (Ne.symm hDC) (fun p hp => (off' p hp).2.2.1) J'
        have z := N' q hq
        refine ⟨up _ _ ?_ ?_ z.1, z.2⟩
        · rcases List.mem_cons.mp hq with rfl | hq
          · exact Ne.symm hDE
          · exact (off' q hq).1
        · rcases List.mem_cons.mp hq with rfl | hq
          · exact Ne.symm hDI
          · exact (off' q hq).2.1
    · rcases List.mem_cons.mp hp with rfl | hp
      · exact ⟨hacc, hDL, hD₀⟩
      · exact ⟨old _ _ (N p hp).1, (N p hp).2⟩
  exact codeAny_compStart_list (loop _ rfl) (wpAny_pyIter_enum he₁ (loop _ rfl))
end
end Mine

end
section
theorem Mine.rst_E2 : True := by (w_top off); first | (walk1; done) | trivial
open PySem PySem.W PyProof.Rows PySem.Calls PySem.Spec PyProof.Rows.LCg
set_option maxHeartbeats 4000000
namespace Mine
section
variable {prog : Program} {w : World} {A : Around} {E : Value → Shared → Prop} {s : Shared} {h₀ : Heap} {L : Addr} {m : Str → Option Value} {env : Env}
def EnSrc (prog : Program) (w : World) (A : Around) (h₀ : Heap) (L : Addr) (m : Str → Option Value) (env : Env) (elt : PySem.Expr) (a b : Str) (scope : Scope) (cl : List (Str × Addr)) (Q : Value → Shared → Prop) (xv : Value) (s₁ : Shared) : Prop :=
  ∃ (e it l : Addr) (items : Array Value) (lo : Obj) (news : List (Addr × Obj)) (J : Nat → List Value → List (Addr × Obj) → Prop), xv = .ref e ∧ A.handled = none ∧ e ≠ it ∧ l ≠ e ∧ l ≠ it ∧ items.size ≤ sizeLine ∧ lo.cls = .type "list" ∧ (∃ n, lo.data = .seq items n) ∧
    IsEnum s₁.heap e it 0 .none ∧ s₁.heap.IsListIter it l 0 ∧ Fr h₀ L s₁.heap m ∧ News h₀ L s₁.heap news ∧ (l, lo) ∈ news ∧ (∀ p ∈ news, p.1 ≠ e ∧ p.1 ≠ it) ∧ L ≠ e ∧ L ≠ it ∧ h₀.get? e = none ∧ h₀.get? it = none ∧ J 0 [] news ∧
    EnTurn prog w A h₀ L m env elt a b scope cl s₁ items J ∧
    (∀ D h tk ys news', Fr h₀ L h m → News h₀ L h ((D, lst ys) :: news') → (∀ p ∈ news', p.1 ≠ D) → J items.size ys news' → Q (.ref D) { s₁ with heap := h, toks := tk })

theorem en_ListComp {elt iter : PySem.Expr} {a b : Str} {pa pb tp : Pos} {kk : Nat} {scope : Scope} {cl : List (Str × Addr)} {pos : Pos} {Q : Value → Shared → Prop} (_F₀ : Fr h₀ L s.heap m)
    (hclos : closureFor scope env = pure cl) (hcell : ∀ y ∈ scope.names, y.2 ≠ .cell) (hkind : scope.kind = .function)
    (hnames : ∀ y ∈ scope.names, y.2 = .local → scope.names.lookup y.1 = some .local) (hxa : scope.names.lookup a = some .local) (hxb : scope.names.lookup b = some .local) (hab : ¬ a = b)
    (h : wpAny (model prog w) A (eval iter env) (EnSrc prog w A h₀ L m env elt a b scope cl Q) E s)
    (hs : ∀ x, foldedSetIterable iter env x = pure x := by intro _; rfl) :
    wpAny (model prog w) A (eval (.ListComp elt [⟨.Tuple [.Name a pa, .Name b pb] kk tp, iter, [], 0⟩] scope pos) env) Q E s := by
  rw [eval_ListComp]
  refine wpAny_comprehension_free (use := none) rfl hs hclos hkind hnames (wpAny_mono h (fun xv s₁ h₁ => ?_) fun _ _ e => e)
  obtain ⟨e, it, l, items, lo, news, J, rfl, hh, hei, hle, hli, hsz, hlo, hlo2, he, hit, F, N, hl, off, hIL, hIL2, hI₀, hI₂, J0, R, fin⟩ := h₁
  refine wpAny_pyIter_enum he ?_
  refine en_block (J := J) hh hei hle hli hsz hlo hlo2 he hit hcell hkind hxa hxb hab F N hl hIL hIL2 hI₀ hI₂ off J0 R ?_
  intro D C h tk m' ys news' F' N' o1 hn hC₀ hD₀ hCL hDL hCD offC jn
  refine ⟨m', hn, fun h'' hs'' => fin D h'' tk ys news' (F'.change hs'' hCL hC₀) (fun p hp => ?_) o1 jn⟩
  refine ⟨hs''.extBut _ _ ?_ (N' p hp).1, (N' p hp).2⟩
  rcases List.mem_cons.mp hp with rfl | hp
  · exact Ne.symm hCD
  · exact offC p hp

theorem en_call {elt : PySem.Expr} {a b : Str} {scope : Scope} {cl : List (Str × Addr)} {Q : Value → Shared → Prop} {l : Addr} {items : Array Value} {lo : Obj} {news : List (Addr × Obj)} (J : Nat → List Value → List (Addr × Obj) → Prop)
    (hh : A.handled = none) (F : Fr h₀ L s.heap m) (N : News h₀ L s.heap news) (hl : (l, lo) ∈ news) (hlo : lo.cls = .type "list") (hlo2 : ∃ n, lo.data = .seq items n) (hsz : items.size ≤ sizeLine) (J0 : J 0 [] news)
    (R : ∀ g, EnTurn prog w A h₀ L m env elt a b scope cl { s with heap := g } items J)
    (fin : ∀ D h tk ys news', Fr h₀ L h m → News h₀ L h ((D, lst ys) :: news') → (∀ p ∈ news', p.1 ≠ D) → J items.size ys news' → Q (.ref D) { s with heap := h, toks := tk }) :
    wpAny (model prog w) A (call (.type "enumerate") [.ref l]) (EnSrc prog w A h₀ L m env elt a b scope cl Q) E s := by
  have hL : s.heap.IsList l items := ⟨lo, (N _ hl).1, hlo, hlo2⟩
  have hlt : l < s.heap.objs.size := Heap.lt_size (N _ hl).1
  refine call_enumerate_list hL fun h' he hit hsz' hk => ?_
  have N' : News h₀ L h' news := N.grown hk
  have F' : Fr h₀ L h' m := F.keeps hk
  have hLlt := F.ns.lt
  have hI : ∀ k, s.heap.objs.size ≤ k → h₀.get? k = none := fun k hk' => by
    cases e : h₀.get? k with
    | none => rfl
    | some o' => exact absurd (Heap.lt_size (F.keep k o' e)) (Nat.not_lt.mpr hk')
  exact ⟨s.heap.objs.size + 1, s.heap.objs.size, l, items, lo, news, J, rfl, hh, Nat.succ_ne_self _, Nat.ne_of_lt (Nat.lt_succ_of_lt hlt), Nat.ne_of_lt hlt, hsz, hlo, hlo2, he, hit, F', N', hl,
    fun p hp => ⟨Nat.ne_of_lt (Nat.lt_succ_of_lt (Heap.lt_size (N p hp).1)), Nat.ne_of_lt (Heap.lt_size (N p hp).1)⟩, Nat.ne_of_lt (Nat.lt_succ_of_lt hLlt), Nat.ne_of_lt hLlt, hI _ (Nat.le_succ _), hI _ (Nat.le_refl _), J0, R h', fin⟩

/-- A list comprehension over the kit's sources, by an invariant of its own. -/
theorem cr_inv {elt : PySem.Expr} {x : Str} {scope : Scope} {cl : List (Str × Addr)} {S : List (Addr × Obj) → Prop} {P : Nat → Value → Prop} {Fin : List Value → List (Addr × Obj) → Prop} {news : List (Addr × Obj)} {n : Nat} (J : Nat → List Value → Prop)
    (hS : S news) (turn : ∀ i ys, i < n → J i ys → ∀ v I oI C oC D m₂ h tk (E' : Value → Shared → Prop), P i v → NsObj oC m₂ → m₂ x = some v → Fr h₀ L h m → News h₀ L h ((I, oI) :: (C, oC) :: (D, lst ys) :: news) →
      wpAny (model prog w) A (eval elt (compEnvC scope cl C env)) (fun y s' => ∃ (h' : Heap) (tk' : Nat) (own : List (Addr × Obj)), s' = { s with heap := h', toks := tk' } ∧ Fr h₀ L h' m ∧ News h₀ L h' (own ++ (I, oI) :: (C, oC) :: (D, lst ys) :: news) ∧ J (i + 1) (ys ++ [y])) E' { s with heap := h, toks := tk })
    (fin : ∀ ys, J n ys → Fin ys news) : ∀ (k i : Nat) (ys : List Value), i + k = n → J i ys → CompRest prog w A h₀ L m env elt x scope cl s S P Fin k i ys news
  | 0, i, ys, e, j => by
    have : i = n := by omega
    exact CompRest.zero (fin ys (this ▸ j))
  | k + 1, i, ys, e, j => by
    refine CompRest.succ fun v I oI C oC D m₂ h tk E' hP hns hm F N off ne => ?_
    refine wpAny_mono (turn i ys (by omega) j v I oI C oC D m₂ h tk E' hP hns hm F N) (fun y s' hh => ?_) fun _ _ e => e
    obtain ⟨h', tk', own, rfl, F', N', J'⟩ := hh
    refine CompEnd.intro F' N' news (fun p hp => ?_) off hS (cr_inv J hS turn fin k (i + 1) (ys ++ [y]) (by omega) J')
    exact List.mem_append_right _ hp
end
end Mine

end
section
theorem Mine.rst_S2 : True := by (w_top off); first | (walk1; done) | trivial
open PySem PySem.W PyProof.Rows PySem.Calls
set_option maxHeartbeats 4000000
namespace Mine
theorem src_small {x : Int} (h0 : 0 ≤ x) (h9 : x < 100) : Builtin.Range.small 0 x 1 = true := by
  exact small_one (by decide) (by decide) (by omega) (by omega)
theorem src_size {x : Int} (h0 : 0 ≤ x) : Builtin.Range.rangeSize 0 x 1 = ((x.toNat : Nat) : Int) := by
  unfold Builtin.Range.rangeSize
  simp
  omega
theorem src_line {n : Nat} (h : n < 100) : n ≤ sizeLine := Nat.le_trans (Nat.le_of_lt h) (by decide)
theorem fmod9 (x : Int) : 0 ≤ x.fmod 9 ∧ x.fmod 9 < 9 := by
  rw [Int.fmod_eq_emod_of_nonneg _ (by decide)]
  omega
theorem fmod6 (x : Int) : x.fmod 6 = 0 ∨ x.fmod 6 = 1 ∨ x.fmod 6 = 2 ∨ x.fmod 6 = 3 ∨ x.fmod 6 = 4 ∨ x.fmod 6 = 5 := by
  rw [Int.fmod_eq_emod_of_nonneg _ (by decide)]
  omega
def refs (ks : List Nat) : List Value := ks.map fun k => .ref (203 + k)
def MkJ (i : Nat) (ys : List Value) : Prop := ∃ ks : List Nat, ks.length = i ∧ (∀ k ∈ ks, k < 6) ∧ ys = refs ks
theorem MkJ.snoc {i : Nat} {ys : List Value} {k : Nat} (j : MkJ i ys) (h : k < 6) : MkJ (i + 1) (ys ++ [.ref (203 + k)]) := by
  obtain ⟨ks, hl, hk, rfl⟩ := j
  refine ⟨ks ++ [k], by simp [hl], fun z hz => ?_, by simp [refs]⟩
  rcases List.mem_append.mp hz with h' | h'
  · exact hk z h'
  · rw [List.mem_singleton.mp h']; exact h

def tbl : Nat → Str × Str
  | 0 => (Str.ofString "S", Str.ofString " ")
  | 1 => (Str.ofString "IDENT", Str.ofString "a")
  | 2 => (Str.ofString "IDENT", Str.ofString "b")
  | 3 => (Str.ofString "DELIM", Str.ofString "*")
  | 4 => (Str.ofString "DELIM", Str.ofString ".")
  | _ => (Str.ofString "STRING", Str.ofString "c")
theorem refs_get {ks : List Nat} {i : Nat} {x : Value} (h : (refs ks).toArray[i]? = some x) : ∃ k, ks[i]? = some k ∧ x = .ref (203 + k) := by
  rw [List.getElem?_toArray] at h
  unfold refs at h
  rw [List.getElem?_map] at h
  cases e : ks[i]? with
  | none => rw [e] at h; cases h
  | some k => rw [e] at h; cases h; exact ⟨k, rfl, rfl⟩
theorem refs_size {ks : List Nat} : (refs ks).toArray.size = ks.length := by simp [refs]
theorem six {k : Nat} (h : k < 6) : k = 0 ∨ k = 1 ∨ k = 2 ∨ k = 3 ∨ k = 4 ∨ k = 5 := by omega
def TokL (ks : List Nat) (own : List (Addr × Obj)) (i : Nat) (ys : List Value) : Prop :=
  ys.length = i ∧ ∀ k n, k < i → ks[k]? = some n → ∃ ta td tva tvb tj tp hp, ys[k]? = some (.ref ta) ∧ (ta, tokO 107 td (.str (tbl n).1 tva) (.str (tbl n).2 tvb)) ∈ own ∧ (td, dictOf [⟨hp, .str (Str.ofString "pos") tp, .int (k : Nat) tj⟩] 1) ∈ own
def TkJ (ks : List Nat) (nw : List (Addr × Obj)) (i : Nat) (ys : List Value) (news : List (Addr × Obj)) : Prop := ∃ own, news = own ++ nw ∧ TokL ks own i ys
theorem TkJ.nil {ks : List Nat} {nw : List (Addr × Obj)} : TkJ ks nw 0 [] nw := ⟨[], rfl, rfl, fun _ _ h => by omega⟩
theorem TkJ.snoc {ks : List Nat} {nw news : List (Addr × Obj)} {i n : Nat} {ys : List Value} {x xd : Addr} {va vb : Str} {t1 t2 t tp : Tok} {hp : Int} (j : TkJ ks nw i ys news) (hi : ys.length = i) (hn : ks[i]? = some n) (e : tbl n = (va, vb)) :
    TkJ ks nw (i + 1) (ys ++ [.ref x]) ([(x, tokO 107 xd (.str va t1) (.str vb t2)), (xd, dictOf [⟨hp, .str (Str.ofString "pos") tp, .int (i : Nat) t⟩] 1)] ++ news) := by
  obtain ⟨own, rfl, hl, h⟩ := j
  refine ⟨[(x, tokO 107 xd (.str va t1) (.str vb t2)), (xd, dictOf [⟨hp, .str (Str.ofString "pos") tp, .int (i : Nat) t⟩] 1)] ++ own, by simp, by simp [hl], fun k n' hk hn' => ?_⟩
  rcases Nat.lt_or_ge k i with hlt | hge
  · obtain ⟨ta, td, tva, tvb, tj, tp', hp', h1, h2, h3⟩ := h k n' hlt hn'
    exact ⟨ta, td, tva, tvb, tj, tp', hp', by rw [List.getElem?_append_left (by omega)]; exact h1, List.mem_append_right _ h2, List.mem_append_right _ h3⟩
  · obtain rfl : k = i := by omega
    rw [hn] at hn'
    cases hn'
    rw [e]
    exact ⟨x, xd, t1, t2, t, tp, hp, by rw [← hl]; simp, by simp, by simp⟩
theorem own_off {x xd e it C D : Addr} {o1 o2 oe oit oC oD : Obj} {news : List (Addr × Obj)} (n1 : ∀ p ∈ (e, oe) :: (it, oit) :: (C, oC) :: (D, oD) :: news, p.1 ≠ x) (n2 : ∀ p ∈ (e, oe) :: (it, oit) :: (C, oC) :: (D, oD) :: news, p.1 ≠ xd) :
    ∀ p ∈ [(x, o1), (xd, o2)], p.1 ≠ e ∧ p.1 ≠ it ∧ p.1 ≠ C ∧ p.1 ≠ D := by
  intro p hp
  rcases List.mem_cons.mp hp with rfl | hp
  · exact ⟨Ne.symm (n1 (e, oe) (by simp)), Ne.symm (n1 (it, oit) (by simp)), Ne.symm (n1 (C, oC) (by simp)), Ne.symm (n1 (D, oD) (by simp))⟩
  · rcases List.mem_cons.mp hp with rfl | hp
    · exact ⟨Ne.symm (n2 (e, oe) (by simp)), Ne.symm (n2 (it, oit) (by simp)), Ne.symm (n2 (C, oC) (by simp)), Ne.symm (n2 (D, oD) (by simp))⟩
    · cases hp
theorem led3 {h₀ h : Heap} {L : Addr} {D M c : Addr} {oD oM oc : Obj} {own : List (Addr × Obj)} (N : News h₀ L h ((D, oD) :: (own ++ [(M, oM), (c, oc)]))) : News h₀ L h ((D, oD) :: (M, oM) :: (c, oc) :: own) := fun p hp => N p (by
  simp only [List.mem_cons, List.mem_append, List.not_mem_nil, or_false] at hp ⊢
  rcases hp with h | h | h | h <;> simp [h])
end Mine

end
section
theorem Mine.rst_M6 : True := by (w_top off); first | (walk1; done) | trivial
open PySem PySem.W PyProof.Rows PySem.Calls PySem.Spec PyProof.Rows.LCg PyProof.V
set_option maxHeartbeats 4000000
namespace Mine
def tupAt (h : Heap) (d : Addr) (p : Str × Str) : Prop := ∃ t1 t2 n, h.get? d = some (⟨.type "tuple", none, .seq #[.str p.1 t1, .str p.2 t2] n, #[]⟩ : Obj)
theorem tupAt.up {h h' : Heap} {d : Addr} {p : Str × Str} (x : tupAt h d p) (k : ∀ b o, h.get? b = some o → h'.get? b = some o) : tupAt h' d p := by
  obtain ⟨t1, t2, n, e⟩ := x
  exact ⟨t1, t2, n, k _ _ e⟩
theorem tbl_in {w : World} {h : Heap} (X : (hd.heap_39 w.params).In h) {k : Nat} (hk : k < 6) : tupAt h (203 + k) (tbl k) := by
  rcases six hk with rfl | rfl | rfl | rfl | rfl | rfl
  · exact ⟨_, _, _, X 203 _ rfl⟩
  · exact ⟨_, _, _, X 204 _ rfl⟩
  · exact ⟨_, _, _, X 205 _ rfl⟩
  · exact ⟨_, _, _, X 206 _ rfl⟩
  · exact ⟨_, _, _, X 207 _ rfl⟩
  · exact ⟨_, _, _, X 208 _ rfl⟩
section
variable {prog : Program} {w : World} {A : Around} {E : Value → Shared → Prop} {s : Shared} {h₀ : Heap} {L : Addr} {m : Str → Option Value} {news : List (Addr × Obj)}
theorem len_N {M : Addr} {o : Obj} {items : Array Value} {n k : Nat} {Q : Value → Shared → Prop} (N : News h₀ L s.heap news) (hm : (M, o) ∈ news) (hc : o.cls = .type "list") (hd : o.data = .seq items n) (hk : items.size = k) (hs : k < 1000)
    (h : Q (.int (k : Nat) (s.toks + 1)) { s with toks := s.toks + 1 + 1 }) : wpAny (model prog w) A (call (.builtin "len") [.ref M]) Q E s := by
  subst hk
  exact call_len_list ⟨o, (N _ hm).1, hc, n, hd⟩ (by omega) h
theorem add_N {l b : Addr} {vs ws : List Value} {n1 n2 : Nat} {Q : Value → Shared → Prop} (F : Fr h₀ L s.heap m) (N : News h₀ L s.heap news) (hl : (l, (⟨.type "list", none, .seq vs.toArray n1, #[]⟩ : Obj)) ∈ news) (hb : (b, (⟨.type "list", none, .seq ws.toArray n2, #[]⟩ : Obj)) ∈ news) (hsz : vs.length + ws.length < 100)
    (h : ∀ (x : Addr) (h' : Heap), Fr h₀ L h' m → News h₀ L h' ((x, (⟨.type "list", none, .seq (vs ++ ws).toArray 0, #[]⟩ : Obj)) :: news) → (∀ p ∈ news, p.1 < x) → Q (.ref x) { s with heap := h' }) :
    wpAny (model prog w) A (binaryOp .Add (.ref l) (.ref b)) Q E s :=
  add_lists (hsz := src_line hsz) F N ⟨_, (N _ hl).1, rfl, _, rfl⟩ ⟨_, (N _ hb).1, rfl, _, rfl⟩ fun h' F' N' => h _ h' F' N' fun p hp => Heap.lt_size (N p hp).1

theorem rng_inv {env : Env} {x : Str} {body : List Stmt} {Q : Flow → Shared → Prop} {r : Addr} {a₀ b₀ : Int} {t₀ u₀ v₀ : Tok} {n : Nat} {m₀ : Str → Option Value} (J : (Str → Option Value) → List (Addr × Obj) → Prop)
    (hh : A.handled = none) (hr : IsRange s.heap r a₀ b₀ 1 t₀ u₀ v₀) (hsmall : Builtin.Range.small a₀ b₀ 1 = true) (hn : Builtin.Range.rangeSize a₀ b₀ 1 = (n : Int)) (F : Fr h₀ env.locals s.heap m₀) (N : News h₀ env.locals s.heap news) (hj : J m₀ news)
    (turn : ∀ (i : Nat) t m₁ nx h tk own, i < n → nx.map (·.1) = news.map (·.1) → OwnOff own (news.map (·.1)) → J m₁ nx → Fr h₀ env.locals h (fun y => if y = x then some (.int (a₀ + i) t) else m₁ y) → News h₀ env.locals h (nx ++ own) →
      wpAny (model prog w) A (execs body env) (InvPostN h₀ env.locals J own (news.map (·.1)) { s with heap := h, toks := tk } Q) E { s with heap := h, toks := tk })
    (done : ∀ m₁ nx h tk, J m₁ nx → Fr h₀ env.locals h m₁ → News h₀ env.locals h nx → Q .next { s with heap := h, toks := tk }) :
    wpAny (model prog w) A (pyIter (.ref r)) (fun it s₂ => LoopAtV prog w A h₀ env x body Q E it s₂) E s := by
  refine wpAny_pyIter_range hr hsmall ?_
  have W : Walks prog w A s.heap.objs.size [s.heap.objs.size] [s.heap.objs.size] n (fun i v => i < n ∧ ∃ t, v = .int (a₀ + i * 1) t)
      (fun i h => IsRangeIter h s.heap.objs.size (a₀ + (i : Nat) * 1) ((n : Int) - (i : Nat)) 1) := (Walks.range hh _ a₀ 1 n).bound
  refine loop_invN (fun _ m nx => J m nx) W ?_ ?_ ?_ ?_ (by show IsRangeIter _ _ _ _ _; rw [hn]; simpa using Heap.get?_push_size _ rfl) (F.push _) (fun p hp => ⟨Heap.get?_push_of_some _ (N p hp).1, (N p hp).2⟩) hj ?_ ?_
  · intro hm
    exact absurd F.ns.lt ((List.mem_singleton.mp hm) ▸ Nat.lt_irrefl _)
  · intro b hb
    rw [List.mem_singleton.mp hb]
    exact next_is_new F
  · intro p hp hI
    exact absurd (Heap.lt_size (N p hp).1) ((List.mem_singleton.mp hI) ▸ Nat.lt_irrefl _)
  · intro p hp hI
    exact absurd (Heap.lt_size (N p hp).1) ((List.mem_singleton.mp hI) ▸ Nat.lt_irrefl _)
  · rintro i v m₁ nx h tk own hi ⟨_, t, rfl⟩ ha hoff hj' F₁ N₁
    have e1 : a₀ + (i : Int) * 1 = a₀ + (i : Int) := by omega
    rw [e1] at F₁
    exact turn i t m₁ nx h tk own hi ha hoff hj' F₁ N₁
  · rintro m₁ nx h tk hj' F₁ N₁
    exact done m₁ nx h tk hj' F₁ N₁

/-- A list comprehension over the kit's sources, by an invariant that also keeps what the elements make. -/
theorem cr_inv2 {env : Env} {elt : PySem.Expr} {x : Str} {scope : Scope} {cl : List (Str × Addr)} {S : List (Addr × Obj) → Prop} {P : Nat → Value → Prop} {Fin : List Value → List (Addr × Obj) → Prop} {n : Nat} (J : Nat → List Value → List (Addr × Obj) → Prop)
    (hS : ∀ i ys news, J i ys news → S news) (turn : ∀ i ys news, i < n → J i ys news → ∀ v I oI C oC D m₂ h tk (E' : Value → Shared → Prop), P i v → NsObj oC m₂ → m₂ x = some v → Fr h₀ L h m → News h₀ L h ((I, oI) :: (C, oC) :: (D, lst ys) :: news) →
      wpAny (model prog w) A (eval elt (compEnvC scope cl C env)) (fun y s' => ∃ (h' : Heap) (tk' : Nat) (own : List (Addr × Obj)), s' = { s with heap := h', toks := tk' } ∧ Fr h₀ L h' m ∧ News h₀ L h' (own ++ (I, oI) :: (C, oC) :: (D, lst ys) :: news) ∧
        (∀ p ∈ own, p.1 ≠ I ∧ p.1 ≠ C ∧ p.1 ≠ D) ∧ J (i + 1) (ys ++ [y]) (own ++ news)) E' { s with heap := h, toks := tk })
    (fin : ∀ ys news, J n ys news → Fin ys news) : ∀ (k i : Nat) (ys : List Value) (news : List (Addr × Obj)), i + k = n → J i ys news → CompRest prog w A h₀ L m env elt x scope cl s S P Fin k i ys news
  | 0, i, ys, news, e, j => by
    have : i = n := by omega
    exact CompRest.zero (fin ys news (this ▸ j))
  | k + 1, i, ys, news, e, j => by
    refine CompRest.succ fun v I oI C oC D m₂ h tk E' hP hns hm F N off ne => ?_
    refine wpAny_mono (turn i ys news (by omega) j v I oI C oC D m₂ h tk E' hP hns hm F N) (fun y s' hh => ?_) fun _ _ e => e
    obtain ⟨h', tk', own, rfl, F', N', off', J'⟩ := hh
    refine CompEnd.intro F' N' (own ++ news) (fun p hp => ?_) (Off3.of fun p hp => ?_) (hS _ _ _ J') (cr_inv2 J hS turn fin k (i + 1) (ys ++ [y]) (own ++ news) (by omega) J')
    · simp only [List.mem_cons, List.mem_append] at hp ⊢
      rcases hp with h | h | h | h | h <;> simp [h]
    · rcases List.mem_append.mp hp with h | h
      · exact off' p h
      · exact off.mem p h

theorem item_N {M : Addr} {vs : List Value} {n : Nat} {k : Nat} {u : Tok} {Q : Value → Shared → Prop} {value slice : PySem.Expr} {x : Value} (N : News h₀ L s.heap news) (hm : (M, (⟨.type "list", none, .seq vs.toArray n, #[]⟩ : Obj)) ∈ news) (hk : k < 1000) (hx : vs[k]? = some x) (h : Q x s)
    (hs : subscripted slice false (.ref M) (.int (k : Nat) u) = operate [.ref M, .int (k : Nat) u] (getItem (.ref M) (.int (k : Nat) u))) :
    wpAny (model prog w) A (subscriptTail value slice (.ref M) (.int (k : Nat) u)) Q E s := by
  have hl : s.heap.IsList M vs.toArray := ⟨_, (N _ hm).1, rfl, n, rfl⟩
  exact tail_any hl.typeIs slot_list_getitem.lookup (wpAny_getItem_list hl (by omega) (by omega) (by simpa using hx) h) hs
theorem tup0 {d : Addr} {n : Nat} {a b : Value} {u : Tok} {Q : Value → Shared → Prop} {value slice : PySem.Expr} (hg : s.heap.get? d = some (⟨.type "tuple", none, .seq #[a, b] n, #[]⟩ : Obj)) (h : Q a s)
    (hs : subscripted slice false (.ref d) (.int 0 u) = operate [.ref d, .int 0 u] (getItem (.ref d) (.int 0 u))) :
    wpAny (model prog w) A (subscriptTail value slice (.ref d) (.int 0 u)) Q E s := by
  have ht : IsTup s.heap d #[a, b] := ⟨_, hg, rfl, n, rfl⟩
  exact tail_any ht.typeIs slot_tuple_getitem.lookup (getItem_tuple (j := 0) ht (by decide) (by decide) rfl rfl h) hs
theorem tup1 {d : Addr} {n : Nat} {a b : Value} {u : Tok} {Q : Value → Shared → Prop} {value slice : PySem.Expr} (hg : s.heap.get? d = some (⟨.type "tuple", none, .seq #[a, b] n, #[]⟩ : Obj)) (h : Q b s)
    (hs : subscripted slice false (.ref d) (.int 1 u) = operate [.ref d, .int 1 u] (getItem (.ref d) (.int 1 u))) :
    wpAny (model prog w) A (subscriptTail value slice (.ref d) (.int 1 u)) Q E s := by
  have ht : IsTup s.heap d #[a, b] := ⟨_, hg, rfl, n, rfl⟩
  exact tail_any ht.typeIs slot_tuple_getitem.lookup (getItem_tuple (j := 1) ht (by decide) (by decide) rfl rfl h) hs
theorem pick_take (vs : List Value) {k : Nat} (h : k ≤ vs.length) : (slicePick vs.toArray none (some (k : Int)) none).toList = vs.take k := by
  rw [kmk_pick_nat (a := 0) (b := k)]
  · simp
  · simp [sliceBounds]
    omega
theorem slice_N {M : Addr} {vs : List Value} {n k : Nat} {u : Tok} {Q : Value → Shared → Prop} {value slice : PySem.Expr} (F : Fr h₀ L s.heap m) (N : News h₀ L s.heap news) (hm : (M, (⟨.type "list", none, .seq vs.toArray n, #[]⟩ : Obj)) ∈ news) (hk : k ≤ vs.length) (hz : vs.length < 100)
    (h : ∀ D h', Fr h₀ L h' m → News h₀ L h' ((D, listOf (vs.take k).toArray 0) :: news) → (∀ p ∈ news, p.1 < D) → Q (.ref D) { s with heap := h' })
    (hs : subscripted slice false (.ref M) (.ref s.heap.objs.size) = operate [.ref s.heap.objs.size, .ref M] (getItem (.ref M) (.ref s.heap.objs.size))) (ht : ∀ r, letTemporaryGo value (.ref M) r = pure ()) :
    wpAny (model prog w) A (subscriptTail value slice (.ref M) (.ref s.heap.objs.size)) Q E { s with heap := s.heap.push { cls := .type "slice", data := .fields #[.none, .int (k : Nat) u, .none] } } :=
  kmk_slice_lit F N ⟨_, (N _ hm).1, rfl, n, rfl⟩ .none (.int _ _) (pick_take vs hk) h hs ht (by simpa using src_line hz)
end
def pd (p : Str × Str) : PyData := .tuple [.str p.1, .str p.2]
theorem reads_tup {h : Heap} {d : Addr} {p : Str × Str} (x : tupAt h d p) : Reads h (.ref d) (pd p) [] := by
  obtain ⟨t1, t2, n, e⟩ := x
  exact Reads.tuple (as := []) e rfl rfl (ReadsAll.cons (as := []) (bs := []) (.str _ _) (ReadsAll.cons (as := []) (bs := []) (.str _ _) .nil))
theorem reads_all {h : Heap} : ∀ {vs : List Value} {ds : List PyData}, vs.length = ds.length → (∀ (k : Nat) (v : Value) (d : PyData), vs[k]? = some v → ds[k]? = some d → Reads h v d []) → ReadsAll h vs ds []
  | [], [], _, _ => .nil
  | v :: vs, d :: ds, hl, hr => ReadsAll.cons (as := []) (bs := []) (hr 0 v d rfl rfl) (reads_all (by simpa using hl) fun k v' d' h1 h2 => hr (k + 1) v' d' (by simpa using h1) (by simpa using h2))
theorem reads_list {h : Heap} {R : Addr} {vs : List Value} {n : Nat} {ps : List (Str × Str)} (e : h.get? R = some (⟨.type "list", none, .seq vs.toArray n, #[]⟩ : Obj)) (hl : vs.length = ps.length) (hr : ∀ (k : Nat) (d : Value) (p : Str × Str), vs[k]? = some d → ps[k]? = some p → ∃ a, d = Value.ref a ∧ tupAt h a p) :
    Reads h (.ref R) (.list (ps.map pd)) [R] := by
  refine Reads.list (as := []) e rfl rfl ?_
  show ReadsAll h vs _ _
  refine reads_all (by simpa using hl) fun k v d h1 h2 => ?_
  rw [List.getElem?_map] at h2
  cases e2 : ps[k]? with
  | none => rw [e2] at h2; cases h2
  | some p =>
    rw [e2] at h2
    cases h2
    obtain ⟨a, rfl, ht⟩ := hr k v p h1 e2
    exact reads_tup ht
theorem eqv_pd (p : Str × Str) : PyData.eqv (pd p) (pd p) = true := by simp [pd, PyData.eqv, PyData.eqvAll]
theorem eqv_pds : ∀ ps : List (Str × Str), PyData.eqvAll (ps.map pd) (ps.map pd) = true
  | [] => rfl
  | p :: ps => by simp [PyData.eqvAll, eqv_pd, eqv_pds ps]
theorem eqv_list (ps : List (Str × Str)) : PyData.eqv (.list (ps.map pd)) (.list (ps.map pd)) = true := by
  unfold PyData.eqv
  exact eqv_pds ps
def okp (p : Str × Str) : Prop := PyData.strOk p.1 = true ∧ PyData.strOk p.2 = true
theorem can_pd {p : Str × Str} (h : okp p) : PyData.canLay0 (pd p) = true := by simp [pd, PyData.canLay0, PyData.canLayAll0, h.1, h.2]
theorem can_pds : ∀ {ps : List (Str × Str)}, (∀ p ∈ ps, okp p) → PyData.canLayAll0 (ps.map pd) = true
  | [], _ => rfl
  | p :: ps, h => by
    have h2 : PyData.canLayAll0 (ps.map pd) = true := can_pds fun q hq => h q (List.mem_cons_of_mem _ hq)
    simp [PyData.canLayAll0, can_pd (h p (by simp)), h2]
theorem depth_pds : ∀ ps : List (Str × Str), PyData.depthAll (ps.map pd) ≤ 1
  | [] => by simp [PyData.depthAll]
  | p :: ps => by
    have := depth_pds ps
    simp [PyData.depthAll, pd, PyData.depth]
    omega
theorem shaped_pd {p : Str × Str} (h : okp p) : PySem.SeqAt.shaped (pd p) = true := by
  unfold PySem.SeqAt.shaped
  rw [can_pd h]
  simp [pd, PyData.depth, PyData.depthAll]
theorem shaped_list {ps : List (Str × Str)} (h : ∀ p ∈ ps, okp p) : PySem.SeqAt.shaped (.list (ps.map pd)) = true := by
  have := depth_pds ps
  unfold PySem.SeqAt.shaped
  simp only [PyData.canLay0, can_pds h, PyData.depth, Bool.true_and]
  exact decide_eq_true (by omega)
theorem okp_tbl {k : Nat} (h : k < 6) : okp (tbl k) := by
  rcases six h with rfl | rfl | rfl | rfl | rfl | rfl <;> exact ⟨by decide +kernel, by decide +kernel⟩
end Mine

end
section
theorem Mine.rst_S3 : True := by (w_top off); first | (walk1; done) | trivial
open PySem PySem.W PyProof.Rows PySem.Calls PySem.Spec PyProof.Rows.LCg PyProof.V
set_option maxHeartbeats 4000000
namespace Mine
structure Apart (S d U I : Addr) (rest : List (Addr × Obj)) : Prop where
  o1 : U ≠ I
  o2 : d ≠ I
  o3 : S ≠ I
  o4 : ∀ p ∈ rest, p.1 ≠ I
  o5 : d ≠ U
  o6 : S ≠ U
  o7 : ∀ p ∈ rest, p.1 ≠ U
  o8 : S ≠ d
  o9 : ∀ p ∈ rest, p.1 ≠ d
  oa : I ≠ U
  ob : I ≠ d
  oc : U ≠ d
  oS : ∀ p ∈ rest, p.1 ≠ S
theorem allLt_ne {d : Addr} : ∀ {l : List (Addr × Obj)}, AllLt d l → ∀ p ∈ l, p.1 ≠ d
  | [], _, _, h => nomatch h
  | q :: l, x, p, h => by
    rcases List.mem_cons.mp h with rfl | h
    · exact Nat.ne_of_lt x.1
    · exact allLt_ne x.2 p h
theorem law_start {h₀ h : Heap} {L Dt AM l D I U S d T2 le x xd TL M c : Addr} {oDt oAM ol oD oI oU oS od oT2 ole ox oxd oTL oM oc : Obj} {own : List (Addr × Obj)}
    (N : News h₀ L h ((Dt, oDt) :: (AM, oAM) :: (l, ol) :: (D, oD) :: (I, oI) :: (U, oU) :: (S, oS) :: (d, od) :: (T2, oT2) :: (le, ole) :: (x, ox) :: (xd, oxd) :: (TL, oTL) :: (M, oM) :: (c, oc) :: own))
    (ld : T2 < d ∧ le < d ∧ x < d ∧ xd < d ∧ TL < d ∧ M < d ∧ c < d ∧ AllLt d own) (l2 : d < S)
    (lU : S < U ∧ d < U ∧ T2 < U ∧ le < U ∧ x < U ∧ xd < U ∧ TL < U ∧ M < U ∧ c < U ∧ AllLt U own)
    (lI : U < I ∧ S < I ∧ d < I ∧ T2 < I ∧ le < I ∧ x < I ∧ xd < I ∧ TL < I ∧ M < I ∧ c < I ∧ AllLt I own)
    (lD : I < D ∧ U < D ∧ S < D ∧ d < D ∧ T2 < D ∧ le < D ∧ x < D ∧ xd < D ∧ TL < D ∧ M < D ∧ c < D ∧ AllLt D own)
    (lA : ∀ p ∈ (l, ol) :: (D, oD) :: (I, oI) :: (U, oU) :: (S, oS) :: (d, od) :: (T2, oT2) :: (le, ole) :: (x, ox) :: (xd, oxd) :: (TL, oTL) :: (M, oM) :: (c, oc) :: own, p.1 < AM) :
    ∃ rest, News h₀ L h ((I, oI) :: (U, oU) :: (d, od) :: (S, oS) :: rest) ∧ Apart S d U I rest ∧ (AM, oAM) ∈ rest ∧ (D, oD) ∈ rest ∧ (T2, oT2) ∈ rest ∧ (x, ox) ∈ rest ∧ (xd, oxd) ∈ rest ∧ (c, oc) ∈ rest ∧ (∀ p ∈ own, p ∈ rest) := by
  obtain ⟨d1, d2, d3, d4, d5, d6, d7, d8⟩ := ld
  obtain ⟨u1, u2, u3, u4, u5, u6, u7, u8, u9, u10⟩ := lU
  obtain ⟨i1, i2, i3, i4, i5, i6, i7, i8, i9, i10, i11⟩ := lI
  obtain ⟨D1, D2, D3, D4, D5, D6, D7, D8, D9, D10, D11, D12⟩ := lD
  have a1 : D < AM := lA (D, oD) (by simp)
  have a2 : I < AM := lA (I, oI) (by simp)
  have off : ∀ z : Addr, AllLt z own → T2 < z → x < z → xd < z → c < z → z < D → z < AM → ∀ p ∈ [(AM, oAM), (D, oD), (T2, oT2), (x, ox), (xd, oxd), (c, oc)] ++ own, p.1 ≠ z := by
    intro z ha h1 h2 h3 h4 h5 h6 p hp
    simp only [List.cons_append, List.nil_append, List.mem_cons] at hp
    rcases hp with rfl | rfl | rfl | rfl | rfl | rfl | hp
    · exact Nat.ne_of_gt h6
    · exact Nat.ne_of_gt h5
    · exact Nat.ne_of_lt h1
    · exact Nat.ne_of_lt h2
    · exact Nat.ne_of_lt h3
    · exact Nat.ne_of_lt h4
    · exact allLt_ne ha p hp
  have ltS : AllLt S own := by
    have : ∀ {l : List (Addr × Obj)}, AllLt d l → AllLt S l := by
      intro l
      induction l with
      | nil => intro _; trivial
      | cons p l ih => intro h; exact ⟨Nat.lt_trans h.1 l2, ih h.2⟩
    exact this d8
  refine ⟨[(AM, oAM), (D, oD), (T2, oT2), (x, ox), (xd, oxd), (c, oc)] ++ own, news_sub N fun p hp => ?_, ⟨Nat.ne_of_lt i1, Nat.ne_of_lt i3, Nat.ne_of_lt i2, off I i11 i4 i6 i7 i10 D1 a2, Nat.ne_of_lt u2, Nat.ne_of_lt u1, off U u10 u3 u5 u6 u9 D2 (Nat.lt_trans D2 a1), Nat.ne_of_gt l2, off d d8 d1 d3 d4 d7 D4 (Nat.lt_trans D4 a1), Nat.ne_of_gt i1, Nat.ne_of_gt i3, Nat.ne_of_gt u2,
    off S ltS (Nat.lt_trans d1 l2) (Nat.lt_trans d3 l2) (Nat.lt_trans d4 l2) (Nat.lt_trans d7 l2) D3 (Nat.lt_trans D3 a1)⟩, by simp, by simp, by simp, by simp, by simp, by simp, fun p hp => List.mem_append_right _ hp⟩
  simp only [List.cons_append, List.nil_append, List.mem_cons] at hp ⊢
  rcases hp with h | h | h | h | h | h | h | h | h | h | h <;> simp [h]
theorem toks_of {ks : List Nat} {own : List (Addr × Obj)} {ys : List Value} {x xd : Addr} {rest : List (Addr × Obj)} {te tp tj : Tok} {hp : Int} (hks : ∀ k ∈ ks, k < 6) (hn : ks.length ≤ 8) (hyl : ys.length = ks.length)
    (htok : ∀ (k n : Nat), k < ks.length → ks[k]? = some n → ∃ (ta td : Addr) (tva tvb tj tp : Tok) (hp : Int), ys[k]? = some (Value.ref ta) ∧ (ta, tokO 107 td (.str (tbl n).1 tva) (.str (tbl n).2 tvb)) ∈ own ∧ (td, dictOf [⟨hp, .str (Str.ofString "pos") tp, .int (k : Nat) tj⟩] 1) ∈ own)
    (hx : (x, tokO 135 xd (.str (Str.ofString "EOF") te) .none) ∈ rest) (hxd : (xd, dictOf [⟨hp, .str (Str.ofString "pos") tp, .int (ks.length : Nat) tj⟩] 1) ∈ rest) (hsub : ∀ p ∈ own, p ∈ rest) :
    Toks rest (ys ++ [Value.ref x]).toArray (ks.map tbl) where
  size := by simp [hyl]
  few := by simpa using hn
  one := fun k va vb h => by
    rw [List.getElem?_map] at h
    cases e : ks[k]? with
    | none => rw [e] at h; cases h
    | some n =>
      rw [e] at h
      obtain ⟨hk, _⟩ := List.getElem?_eq_some_iff.mp e
      have h' : tbl n = (va, vb) := Option.some.inj h
      obtain ⟨ta, td, tva, tvb, tj, tp, hp, h1, h2, h3⟩ := htok k n hk e
      rw [h'] at h2
      refine ⟨ta, td, tva, tvb, tj, tp, hp, ?_, hsub _ h2, hsub _ h3⟩
      rw [List.getElem?_toArray, List.getElem?_append_left (by omega)]
      exact h1
  eof := by
    refine ⟨x, xd, te, tj, tp, hp, ?_, hx, ?_⟩
    · rw [List.getElem?_toArray, List.length_map, ← hyl]
      exact List.getElem?_concat_length
    · rw [List.length_map]; exact hxd
  short := fun m hm => by
    obtain ⟨k, hk, rfl⟩ := List.mem_map.mp hm
    rcases six (hks k hk) with rfl | rfl | rfl | rfl | rfl | rfl <;> exact ⟨by decide +kernel, by decide +kernel⟩

def LJ (S Sd U IT TL AM : Addr) (h1 h2 h3 h4 h5 : Int) (t1 t2 t3 t4 t5 : Tok) (rest : List (Addr × Obj)) (items : Array Value) (n : Nat) (m : Str → Option Value) (nx : List (Addr × Obj)) : Prop :=
  ∃ (spot : Nat) (t : Tok) (io : Obj) (i : Nat) (pv : Value) (pk : Bool) (un' : Nat),
    nx = (IT, io) :: (U, listOf (items.toList.take spot).toArray un') :: (Sd, sDict h1 h2 h3 h4 h5 t1 t2 t3 t4 t5 U IT pv pk) :: (S, instObj 198 Sd) :: rest ∧ LI io TL i ∧ At items i spot pk pv ∧ spot ≤ n ∧
    m (Str.ofString "spot") = some (.int (spot : Nat) t) ∧ m (Str.ofString "stream") = some (.ref S) ∧ m (Str.ofString "all_marks") = some (.ref AM)
def lawMap (S AM : Addr) (spot : Nat) (t : Tok) (u : Str → Option Value) : Str → Option Value := fun y => if y = Str.ofString "spot" then some (.int (spot : Nat) t) else if y = Str.ofString "stream" then some (.ref S) else if y = Str.ofString "all_marks" then some (.ref AM) else u y
theorem lawMap_eq {S AM : Addr} {spot : Nat} {t : Tok} {m : Str → Option Value} (a : m (Str.ofString "spot") = some (.int (spot : Nat) t)) (b : m (Str.ofString "stream") = some (.ref S)) (c : m (Str.ofString "all_marks") = some (.ref AM)) : m = lawMap S AM spot t m := by
  funext y
  unfold lawMap
  split
  · next h => rw [h, a]
  · split
    · next h => rw [h, b]
    · split
      · next h => rw [h, c]
      · rfl
theorem Toks.mono {rest R : List (Addr × Obj)} {items : Array Value} {marks : List (Str × Str)} (K : Toks rest items marks) (h : ∀ p ∈ rest, p ∈ R) : Toks R items marks where
  size := K.size
  few := K.few
  one := fun k va vb e => by
    obtain ⟨ta, td, tva, tvb, tj, tp, hp, h1, h2, h3⟩ := K.one k va vb e
    exact ⟨ta, td, tva, tvb, tj, tp, hp, h1, h _ h2, h _ h3⟩
  eof := by
    obtain ⟨ta, td, tva, tj, tp, hp, h1, h2, h3⟩ := K.eof
    exact ⟨ta, td, tva, tj, tp, hp, h1, h _ h2, h _ h3⟩
  short := K.short
theorem Apart.more {S d U I : Addr} {rest own : List (Addr × Obj)} {adr : List Addr} (A : Apart S d U I rest) (h : OwnOff own adr) (hI : I ∈ adr) (hU : U ∈ adr) (hd : d ∈ adr) (hS : S ∈ adr) : Apart S d U I (rest ++ own) :=
  have f : ∀ {z : Addr}, (∀ p ∈ rest, p.1 ≠ z) → z ∈ adr → ∀ p ∈ rest ++ own, p.1 ≠ z := fun h1 h2 p hp => by
    rcases List.mem_append.mp hp with hp | hp
    · exact h1 p hp
    · exact h p hp _ h2
  ⟨A.o1, A.o2, A.o3, f A.o4 hI, A.o5, A.o6, f A.o7 hU, A.o8, f A.o9 hd, A.oa, A.ob, A.oc, f A.oS hS⟩
theorem fmod5 (x : Int) : x.fmod 5 = 0 ∨ x.fmod 5 = 1 ∨ x.fmod 5 = 2 ∨ x.fmod 5 = 3 ∨ x.fmod 5 = 4 := by
  rw [Int.fmod_eq_emod_of_nonneg _ (by decide)]
  omega
theorem am_at {ks : List Nat} {D : Addr} {spot : Nat} (hsp : spot < ks.length) (hks : ∀ k ∈ ks, k < 6) : ∃ k, k < 6 ∧ ks[spot]? = some k ∧ (refs ks ++ [Value.ref D])[spot]? = some (.ref (203 + k)) ∧ (ks.map tbl)[spot]? = some ((tbl k).1, (tbl k).2) := by
  refine ⟨ks[spot], hks _ (List.getElem_mem hsp), List.getElem?_eq_getElem hsp, ?_, ?_⟩
  · rw [List.getElem?_append_left (by simpa [refs] using hsp)]
    simp [refs, hsp]
  · simp [hsp]
theorem am_end {ks : List Nat} {D : Addr} : (refs ks ++ [Value.ref D])[ks.length]? = some (.ref D) := by
  have : (refs ks).length = ks.length := by simp [refs]
  rw [← this]
  exact List.getElem?_concat_length
theorem rb (n : Nat) : 0 ≤ (if (if (n : Int) < 12 then (n : Int) else 12) > 3 then if (n : Int) < 12 then (n : Int) else 12 else 3) ∧ (if (if (n : Int) < 12 then (n : Int) else 12) > 3 then if (n : Int) < 12 then (n : Int) else 12 else 3) < 100 := by
  split <;> split <;> omega
theorem lj_start {S Sd U IT TL AM : Addr} {h1 h2 h3 h4 h5 : Int} {t1 t2 t3 t4 t5 : Tok} {rest : List (Addr × Obj)} {items : Array Value} {marks : List (Str × Str)} {n un' : Nat} {m : Str → Option Value} {io : Obj} {pv : Value} {t : Tok} (_ : Toks rest items marks) (hli : LI io TL 0)
    (a : m (Str.ofString "spot") = some (.int 0 t)) (b : m (Str.ofString "stream") = some (.ref S)) (c : m (Str.ofString "all_marks") = some (.ref AM)) :
    LJ S Sd U IT TL AM h1 h2 h3 h4 h5 t1 t2 t3 t4 t5 rest items n m ((IT, io) :: (U, listOf #[] un') :: (Sd, sDict h1 h2 h3 h4 h5 t1 t2 t3 t4 t5 U IT pv false) :: (S, instObj 198 Sd) :: rest) :=
  ⟨0, t, io, 0, pv, false, un', rfl, hli, rfl, Nat.zero_le _, a, b, c⟩
theorem tbl_inF {w : World} {h₀ h : Heap} {L : Addr} {m : Str → Option Value} (_ : Fr h₀ L h m) (X : (hd.heap_39 w.params).In h₀) {k : Nat} (hk : k < 6) : tupAt h₀ (203 + k) (tbl k) := tbl_in X hk
theorem am_endR {ks : List Nat} {D : Addr} {o : Obj} {R : List (Addr × Obj)} (_ : (D, o) ∈ R) : (refs ks ++ [Value.ref D])[ks.length]? = some (.ref D) := am_end
theorem law_start2 {h₀ h : Heap} {L Dt AM l D I U S d T2 le x xd TL M c : Addr} {oDt ol oI oTL ole oM oc : Obj} {own : List (Addr × Obj)} {ks : List Nat} {ys : List Value} {h1 h2 h3 h4 h5 hp : Int} {t1 t2 t3 t4 t5 te tj tp tE t : Tok} {un n1 n2 n3 : Nat} {m : Str → Option Value}
    (N : News h₀ L h ((Dt, oDt) :: (AM, (⟨.type "list", none, .seq (refs ks ++ [Value.ref D]).toArray n1, #[]⟩ : Obj)) :: (l, ol) :: (D, (⟨.type "tuple", none, .seq #[.str (Str.ofString "EOF") tE, .none] n2, #[]⟩ : Obj)) :: (I, oI) :: (U, listOf #[] un) :: (S, instObj 198 d) :: (d, sDict h1 h2 h3 h4 h5 t1 t2 t3 t4 t5 U I .none false) ::
      (T2, (⟨.type "list", none, .seq (ys ++ [Value.ref x]).toArray n3, #[]⟩ : Obj)) :: (le, ole) :: (x, tokO 135 xd (.str (Str.ofString "EOF") te) .none) :: (xd, dictOf [⟨hp, .str (Str.ofString "pos") tp, .int (ks.length : Nat) tj⟩] 1) :: (TL, oTL) :: (M, oM) :: (c, oc) :: own))
    (F : Fr h₀ L h m) (e1 : m (Str.ofString "spot") = some (.int 0 t)) (e2 : m (Str.ofString "stream") = some (.ref S)) (e3 : m (Str.ofString "all_marks") = some (.ref AM)) (hli : LI oI T2 0)
    (ld : T2 < d ∧ le < d ∧ x < d ∧ xd < d ∧ TL < d ∧ M < d ∧ c < d ∧ AllLt d own) (l2 : d < S)
    (lU : S < U ∧ d < U ∧ T2 < U ∧ le < U ∧ x < U ∧ xd < U ∧ TL < U ∧ M < U ∧ c < U ∧ AllLt U own)
    (lI : U < I ∧ S < I ∧ d < I ∧ T2 < I ∧ le < I ∧ x < I ∧ xd < I ∧ TL < I ∧ M < I ∧ c < I ∧ AllLt I own)
    (lD : I < D ∧ U < D ∧ S < D ∧ d < D ∧ T2 < D ∧ le < D ∧ x < D ∧ xd < D ∧ TL < D ∧ M < D ∧ c < D ∧ AllLt D own)
    (lA : ∀ p ∈ (l, ol) :: (D, (⟨.type "tuple", none, .seq #[.str (Str.ofString "EOF") tE, .none] n2, #[]⟩ : Obj)) :: (I, oI) :: (U, listOf #[] un) :: (S, instObj 198 d) :: (d, sDict h1 h2 h3 h4 h5 t1 t2 t3 t4 t5 U I .none false) ::
      (T2, (⟨.type "list", none, .seq (ys ++ [Value.ref x]).toArray n3, #[]⟩ : Obj)) :: (le, ole) :: (x, tokO 135 xd (.str (Str.ofString "EOF") te) .none) :: (xd, dictOf [⟨hp, .str (Str.ofString "pos") tp, .int (ks.length : Nat) tj⟩] 1) :: (TL, oTL) :: (M, oM) :: (c, oc) :: own, p.1 < AM)
    (hks : ∀ k ∈ ks, k < 6) (hn : ks.length ≤ 8) (hyl : ys.length = ks.length)
    (htok : ∀ (k n : Nat), k < ks.length → ks[k]? = some n → ∃ (ta td : Addr) (tva tvb tj tp : Tok) (hp : Int), ys[k]? = some (Value.ref ta) ∧ (ta, tokO 107 td (.str (tbl n).1 tva) (.str (tbl n).2 tvb)) ∈ own ∧ (td, dictOf [⟨hp, .str (Str.ofString "pos") tp, .int (k : Nat) tj⟩] 1) ∈ own) :
    ∃ (S Sd U IT TL AM De : Addr) (h1 h2 h3 h4 h5 : Int) (t1 t2 t3 t4 t5 tE t : Tok) (items : Array Value) (rest : List (Addr × Obj)) (io : Obj) (un tn an en : Nat) (mm : Str → Option Value),
      News h₀ L h ((IT, io) :: (U, listOf #[] un) :: (Sd, sDict h1 h2 h3 h4 h5 t1 t2 t3 t4 t5 U IT .none false) :: (S, instObj 198 Sd) :: rest) ∧ Apart S Sd U IT rest ∧ (AM, (⟨.type "list", none, .seq (refs ks ++ [Value.ref De]).toArray an, #[]⟩ : Obj)) ∈ rest ∧
      (De, (⟨.type "tuple", none, .seq #[.str (Str.ofString "EOF") tE, .none] en, #[]⟩ : Obj)) ∈ rest ∧ (TL, listOf items tn) ∈ rest ∧ Toks rest items (ks.map tbl) ∧ (c, oc) ∈ rest ∧ LI io TL 0 ∧ Fr h₀ L h (lawMap S AM 0 t mm) := by
  obtain ⟨rest, N9, AP, hAM, hEO, hTL, hex, hexd, hcell, hsub⟩ := law_start N ld l2 lU lI lD lA
  exact ⟨S, d, U, I, T2, AM, D, h1, h2, h3, h4, h5, t1, t2, t3, t4, t5, tE, t, _, rest, oI, un, n3, n1, n2, m, N9, AP, hAM, hEO, hTL, toks_of hks hn hyl htok hex hexd hsub, hcell, hli, lawMap_eq (spot := 0) e1 e2 e3 ▸ F⟩
theorem used_at {R : List (Addr × Obj)} {items : Array Value} {marks : List (Str × Str)} {spot i : Nat} {v : Value} (K : Toks R items marks) (hsp : spot ≤ marks.length) (hi : i < spot) (hv : (items.toList.take spot).toArray[i]? = some v) :
    ∃ (va vb : Str) (ta td : Addr) (tva tvb : Tok), marks[i]? = some (va, vb) ∧ v = .ref ta ∧ (ta, tokO 107 td (.str va tva) (.str vb tvb)) ∈ R := by
  rw [List.getElem?_toArray, List.getElem?_take_of_lt hi, Array.getElem?_toList] at hv
  have hlt : i < marks.length := Nat.lt_of_lt_of_le hi hsp
  obtain ⟨ta, td, tva, tvb, tj, tp, hp, h1, h2, h3⟩ := K.one i marks[i].1 marks[i].2 (List.getElem?_eq_getElem hlt)
  rw [h1] at hv
  cases hv
  exact ⟨_, _, ta, td, tva, tvb, List.getElem?_eq_getElem hlt, rfl, h2⟩
theorem take_size {R : List (Addr × Obj)} {items : Array Value} {marks : List (Str × Str)} {spot : Nat} (K : Toks R items marks) (hsp : spot ≤ marks.length) : (items.toList.take spot).toArray.size = spot := by
  have := K.size
  rw [List.size_toArray, List.length_take, Array.length_toList]
  omega
theorem tbl_ne {k : Nat} (h : k < 6) : (tbl k).1 ≠ Str.ofString "EOF" := by
  rcases six h with rfl | rfl | rfl | rfl | rfl | rfl <;> decide +kernel
end Mine

end
section
theorem Mine.rst_M7 : True := by (w_top off); first | (walk1; done) | trivial
open PySem PySem.W PyProof.Rows PySem.Calls PySem.Spec PyProof.Rows.LCg PyProof.V
set_option maxHeartbeats 4000000
namespace Mine
section
variable {prog : Program} {w : World} {A : Around} {E : Value → Shared → Prop} {s : Shared} {h₀ : Heap} {L : Addr} {m : Str → Option Value} {news : List (Addr × Obj)} {a b : Addr} {x y : Str} {k : Int} {t1 t2 t3 u1 u2 u3 : Tok} {n1 n2 : Nat} {Q : Value → Shared → Prop}
theorem ne_reads {d : PyData} {as bs : List Addr} {v u : Value} (ra : Reads s.heap v d as) (rb : Reads s.heap u d bs) (hs : PySem.SeqAt.shaped d = true) (he : PyData.eqv d d = true) (hu : A.units + 64 < cLine) (h : Q (.bool false) s) :
    wpAny (model prog w) A (compareOp .NotEq v u) Q E s := ne_dataH ra rb hs hs hu (by rw [he]; exact h)
theorem eq_reads {d : PyData} {as bs : List Addr} {v u : Value} (ra : Reads s.heap v d as) (rb : Reads s.heap u d bs) (hs : PySem.SeqAt.shaped d = true) (he : PyData.eqv d d = true) (hu : A.units + 64 < cLine) (h : Q (.bool true) s) :
    wpAny (model prog w) A (compareOp .Eq v u) Q E s := eq_dataH ra rb hs hs hu (by rw [he]; exact h)
theorem ne_tup3 (N : News h₀ L s.heap news) (ha : (a, (⟨.type "tuple", none, .seq #[.str x t1, .str y t2, .int k t3] n1, #[]⟩ : Obj)) ∈ news) (hb : (b, (⟨.type "tuple", none, .seq #[.str x u1, .str y u2, .int k u3] n2, #[]⟩ : Obj)) ∈ news)
    (ox : PyData.strOk x = true) (oy : PyData.strOk y = true) (hu : A.units + 64 < cLine) (h : Q (.bool false) s) : wpAny (model prog w) A (compareOp .NotEq (.ref a) (.ref b)) Q E s := by
  have R : ∀ {c : Addr} {t1 t2 t3 : Tok} {n : Nat}, s.heap.get? c = some (⟨.type "tuple", none, .seq #[.str x t1, .str y t2, .int k t3] n, #[]⟩ : Obj) → Reads s.heap (.ref c) (.tuple [.str x, .str y, .int k]) [] := fun e =>
    Reads.tuple (as := []) e rfl rfl (ReadsAll.cons (as := []) (bs := []) (.str _ _) (ReadsAll.cons (as := []) (bs := []) (.str _ _) (ReadsAll.cons (as := []) (bs := []) (.int _ _) .nil)))
  exact ne_reads (R (N _ ha).1) (R (N _ hb).1) (by simp [PySem.SeqAt.shaped, PyData.canLay0, PyData.canLayAll0, ox, oy, PyData.depth, PyData.depthAll]) (by simp [PyData.eqv, PyData.eqvAll]) hu h
theorem ne_tup3N (N : News h₀ L s.heap news) (ha : (a, (⟨.type "tuple", none, .seq #[.str x t1, .none, .int k t3] n1, #[]⟩ : Obj)) ∈ news) (hb : (b, (⟨.type "tuple", none, .seq #[.str x u1, .none, .int k u3] n2, #[]⟩ : Obj)) ∈ news)
    (ox : PyData.strOk x = true) (hu : A.units + 64 < cLine) (h : Q (.bool false) s) : wpAny (model prog w) A (compareOp .NotEq (.ref a) (.ref b)) Q E s := by
  have R : ∀ {c : Addr} {t1 t3 : Tok} {n : Nat}, s.heap.get? c = some (⟨.type "tuple", none, .seq #[.str x t1, .none, .int k t3] n, #[]⟩ : Obj) → Reads s.heap (.ref c) (.tuple [.str x, .none, .int k]) [] := fun e =>
    Reads.tuple (as := []) e rfl rfl (ReadsAll.cons (as := []) (bs := []) (.str _ _) (ReadsAll.cons (as := []) (bs := []) .none (ReadsAll.cons (as := []) (bs := []) (.int _ _) .nil)))
  exact ne_reads (R (N _ ha).1) (R (N _ hb).1) (by simp [PySem.SeqAt.shaped, PyData.canLay0, PyData.canLayAll0, ox, PyData.depth, PyData.depthAll]) (by simp [PyData.eqv, PyData.eqvAll]) hu h
theorem reads2 {h : Heap} {c : Addr} {t1 t2 : Tok} {n : Nat} (e : h.get? c = some (⟨.type "tuple", none, .seq #[.str x t1, .str y t2] n, #[]⟩ : Obj)) : Reads h (.ref c) (.tuple [.str x, .str y]) [] :=
  Reads.tuple (as := []) e rfl rfl (ReadsAll.cons (as := []) (bs := []) (.str _ _) (ReadsAll.cons (as := []) (bs := []) (.str _ _) .nil))
theorem reads2N {h : Heap} {c : Addr} {t1 : Tok} {n : Nat} (e : h.get? c = some (⟨.type "tuple", none, .seq #[.str x t1, .none] n, #[]⟩ : Obj)) : Reads h (.ref c) (.tuple [.str x, .none]) [] :=
  Reads.tuple (as := []) e rfl rfl (ReadsAll.cons (as := []) (bs := []) (.str _ _) (ReadsAll.cons (as := []) (bs := []) .none .nil))
theorem sh2 (ox : PyData.strOk x = true) (oy : PyData.strOk y = true) : PySem.SeqAt.shaped (.tuple [.str x, .str y]) = true := by simp [PySem.SeqAt.shaped, PyData.canLay0, PyData.canLayAll0, ox, oy, PyData.depth, PyData.depthAll]
theorem sh2N (ox : PyData.strOk x = true) : PySem.SeqAt.shaped (.tuple [.str x, .none]) = true := by simp [PySem.SeqAt.shaped, PyData.canLay0, PyData.canLayAll0, ox, PyData.depth, PyData.depthAll]
theorem ev2 : PyData.eqv (.tuple [.str x, .str y]) (.tuple [.str x, .str y]) = true := by simp [PyData.eqv, PyData.eqvAll]
theorem ev2N : PyData.eqv (.tuple [.str x, .none]) (.tuple [.str x, .none]) = true := by simp [PyData.eqv, PyData.eqvAll]
/-- A fresh pair against a pair that reads the same. -/
theorem ne_pair (N : News h₀ L s.heap news) (ha : (a, (⟨.type "tuple", none, .seq #[.str x t1, .str y t2] n1, #[]⟩ : Obj)) ∈ news) (hb : s.heap.get? b = some (⟨.type "tuple", none, .seq #[.str x u1, .str y u2] n2, #[]⟩ : Obj))
    (ox : PyData.strOk x = true) (oy : PyData.strOk y = true) (hu : A.units + 64 < cLine) (h : Q (.bool false) s) : wpAny (model prog w) A (compareOp .NotEq (.ref a) (.ref b)) Q E s :=
  ne_reads (reads2 (N _ ha).1) (reads2 hb) (sh2 ox oy) ev2 hu h
theorem ne_pairN (N : News h₀ L s.heap news) (ha : (a, (⟨.type "tuple", none, .seq #[.str x t1, .none] n1, #[]⟩ : Obj)) ∈ news) (hb : s.heap.get? b = some (⟨.type "tuple", none, .seq #[.str x u1, .none] n2, #[]⟩ : Obj))
    (ox : PyData.strOk x = true) (hu : A.units + 64 < cLine) (h : Q (.bool false) s) : wpAny (model prog w) A (compareOp .NotEq (.ref a) (.ref b)) Q E s :=
  ne_reads (reads2N (N _ ha).1) (reads2N hb) (sh2N ox) ev2N hu h
theorem eq_pair (N : News h₀ L s.heap news) (ha : (a, (⟨.type "tuple", none, .seq #[.str x t1, .str y t2] n1, #[]⟩ : Obj)) ∈ news) (hb : s.heap.get? b = some (⟨.type "tuple", none, .seq #[.str x u1, .str y u2] n2, #[]⟩ : Obj))
    (ox : PyData.strOk x = true) (oy : PyData.strOk y = true) (hu : A.units + 64 < cLine) (h : Q (.bool true) s) : wpAny (model prog w) A (compareOp .Eq (.ref a) (.ref b)) Q E s :=
  eq_reads (reads2 (N _ ha).1) (reads2 hb) (sh2 ox oy) ev2 hu h
theorem eq_pairN (N : News h₀ L s.heap news) (ha : (a, (⟨.type "tuple", none, .seq #[.str x t1, .none] n1, #[]⟩ : Obj)) ∈ news) (hb : s.heap.get? b = some (⟨.type "tuple", none, .seq #[.str x u1, .none] n2, #[]⟩ : Obj))
    (ox : PyData.strOk x = true) (hu : A.units + 64 < cLine) (h : Q (.bool true) s) : wpAny (model prog w) A (compareOp .Eq (.ref a) (.ref b)) Q E s :=
  eq_reads (reads2N (N _ ha).1) (reads2N hb) (sh2N ox) ev2N hu h

/-- What the tuples of the used tokens are. -/
def UsJ (marks : List (Str × Str)) (nw : List (Addr × Obj)) (i : Nat) (ys : List Value) (news : List (Addr × Obj)) : Prop :=
  ∃ own, news = own ++ nw ∧ ys.length = i ∧ ∀ (k : Nat) (d : Value) (p : Str × Str), ys[k]? = some d → marks[k]? = some p → ∃ (c : Addr) (t1 t2 : Tok), d = Value.ref c ∧ (c, (⟨.type "tuple", none, .seq #[.str p.1 t1, .str p.2 t2] 0, #[]⟩ : Obj)) ∈ own
theorem UsJ.nil {marks : List (Str × Str)} {nw : List (Addr × Obj)} : UsJ marks nw 0 [] nw := ⟨[], rfl, rfl, fun _ _ _ h => by simp at h⟩
theorem UsJ.snoc {marks : List (Str × Str)} {nw news : List (Addr × Obj)} {i : Nat} {ys : List Value} {c : Addr} {va vb : Str} {t1 t2 : Tok} (j : UsJ marks nw i ys news) (e : marks[i]? = some (va, vb)) :
    UsJ marks nw (i + 1) (ys ++ [.ref c]) ([(c, (⟨.type "tuple", none, .seq #[.str va t1, .str vb t2] 0, #[]⟩ : Obj))] ++ news) := by
  obtain ⟨own, rfl, hl, h⟩ := j
  refine ⟨[(c, (⟨.type "tuple", none, .seq #[.str va t1, .str vb t2] 0, #[]⟩ : Obj))] ++ own, by simp, by simp [hl], fun k d p hk hp => ?_⟩
  rcases Nat.lt_or_ge k i with hlt | hge
  · rw [List.getElem?_append_left (by omega)] at hk
    obtain ⟨c', t1', t2', e1, e2⟩ := h k d p hk hp
    exact ⟨c', t1', t2', e1, List.mem_append_right _ e2⟩
  · have hlt : k < (ys ++ [Value.ref c]).length := (List.getElem?_eq_some_iff.mp hk).1
    obtain rfl : k = i := by simp at hlt; omega
    rw [e] at hp
    cases hp
    rw [← hl] at hk
    have : d = Value.ref c := by
      rw [List.getElem?_concat_length] at hk
      exact (Option.some.inj hk).symm
    exact ⟨c, t1, t2, this, by simp⟩
theorem UsJ.mem {marks : List (Str × Str)} {nw news : List (Addr × Obj)} {i : Nat} {ys : List Value} (j : UsJ marks nw i ys news) : ∀ p ∈ nw, p ∈ news := by
  obtain ⟨own, rfl, _⟩ := j
  exact fun p hp => List.mem_append_right _ hp
theorem one_off {c I C D : Addr} {o oI oC oD : Obj} {news : List (Addr × Obj)} (n : ∀ p ∈ (I, oI) :: (C, oC) :: (D, oD) :: news, p.1 ≠ c) : ∀ p ∈ [(c, o)], p.1 ≠ I ∧ p.1 ≠ C ∧ p.1 ≠ D := by
  intro p hp
  rw [List.mem_singleton.mp hp]
  exact ⟨Ne.symm (n (I, oI) (by simp)), Ne.symm (n (C, oC) (by simp)), Ne.symm (n (D, oD) (by simp))⟩
/-- The law's own check of the used tokens. -/
theorem ne_used {w : World} {ks : List Nat} {Rr D De : Addr} {ys : List Value} {nw nws : List (Addr × Obj)} {spot : Nat} (hks : ∀ k ∈ ks, k < 6) (hsp : spot ≤ ks.length) (F : Fr h₀ L s.heap m) (X : (hd.heap_39 w.params).In h₀) (N : News h₀ L s.heap news)
    (hR : (Rr, lst ys) ∈ news) (hD : (D, listOf ((refs ks ++ [Value.ref De]).take spot).toArray 0) ∈ news) (hj : UsJ (ks.map tbl) nw spot ys nws) (hsub : ∀ p ∈ nws, p ∈ news) (hu : A.units + 64 < cLine) (h : Q (.bool false) s) :
    wpAny (model prog w) A (compareOp .NotEq (.ref Rr) (.ref D)) Q E s := by
  obtain ⟨own, rfl, hyl, hys⟩ := hj
  have hlen : ((ks.map tbl).take spot).length = spot := by rw [List.length_take, List.length_map]; omega
  have hrl : (refs ks).length = ks.length := by simp [refs]
  have mk : ∀ {k : Nat} {p : Str × Str}, ((ks.map tbl).take spot)[k]? = some p → k < spot ∧ (ks.map tbl)[k]? = some p := fun {k p} e => by
    have hk : k < spot := by have := (List.getElem?_eq_some_iff.mp e).1; omega
    rw [List.getElem?_take_of_lt hk] at e
    exact ⟨hk, e⟩
  refine ne_reads (d := .list (((ks.map tbl).take spot).map pd)) (reads_list (N _ hR).1 (by rw [hlen, hyl]) fun k d p h1 h2 => ?_) (reads_list (N _ hD).1 (by rw [hlen, List.length_take, List.length_append, hrl]; simp; omega) fun k d p h1 h2 => ?_) (shaped_list fun p hp => ?_) (eqv_list _) hu h
  · obtain ⟨c, t1, t2, rfl, hm⟩ := hys k d p h1 (mk h2).2
    exact ⟨c, rfl, t1, t2, 0, (N _ (hsub _ (List.mem_append_left _ hm))).1⟩
  · obtain ⟨hk, h2⟩ := mk h2
    rw [List.getElem?_take_of_lt hk, List.getElem?_append_left (by omega)] at h1
    unfold refs at h1
    rw [List.getElem?_map] at h1 h2
    cases e : ks[k]? with
    | none => rw [e] at h1; cases h1
    | some q =>
      rw [e] at h1 h2
      cases h1
      cases h2
      exact ⟨203 + q, rfl, (tbl_in X (hks q (List.mem_of_getElem? e))).up fun b o x => F.keep b o x⟩
  · obtain ⟨q, hq, rfl⟩ := List.mem_map.mp (List.mem_of_mem_take hp)
    exact okp_tbl (hks q hq)
end
theorem lj_end {h₀ h' : Heap} {L : Addr} {m' : Str → Option Value} {nw news news' own R rest : List (Addr × Obj)} {adr : List Addr} {marks : List (Str × Str)} {i0 : Nat} {ys : List Value} {S Sd U IT TL AM : Addr} {h1 h2 h3 h4 h5 : Int} {t1 t2 t3 t4 t5 : Tok} {items : Array Value} {n spot i un : Nat} {io : Obj} {pv : Value} {pk : Bool} {t : Tok} {s₁ : Shared} {tk : Nat} {Q : Flow → Shared → Prop}
    (j : UsJ marks nw i0 ys news) (F : Fr h₀ L h' m') (N : News h₀ L h' news') (hsub : ∀ p ∈ news, p ∈ news')
    (hli : LI io TL i) (mI : (IT, io) ∈ nw) (mU : (U, listOf (items.toList.take spot).toArray un) ∈ nw) (mS : (Sd, sDict h1 h2 h3 h4 h5 t1 t2 t3 t4 t5 U IT pv pk) ∈ nw) (mO : (S, instObj 198 Sd) ∈ nw) (mR : ∀ p ∈ R, p ∈ nw) (hRr : ∀ p ∈ rest, p ∈ R) (hRo : ∀ p ∈ own, p ∈ R)
    (hat : At items i spot pk pv) (hsp : spot ≤ n) (e1 : m' (Str.ofString "spot") = some (.int (spot : Nat) t)) (e2 : m' (Str.ofString "stream") = some (.ref S)) (e3 : m' (Str.ofString "all_marks") = some (.ref AM)) (ha : IT :: U :: Sd :: S :: rest.map (·.1) = adr) :
    InvPostN h₀ L (LJ S Sd U IT TL AM h1 h2 h3 h4 h5 t1 t2 t3 t4 t5 rest items n) own adr s₁ Q .next { s₁ with heap := h', toks := tk } := by
  have up : ∀ p ∈ nw, p ∈ news' := fun p hp => hsub p (j.mem p hp)
  refine ⟨h', tk, m', news', (IT, io) :: (U, listOf (items.toList.take spot).toArray un) :: (Sd, sDict h1 h2 h3 h4 h5 t1 t2 t3 t4 t5 U IT pv pk) :: (S, instObj 198 Sd) :: rest, rfl, F, N, fun p hp => ?_, fun p hp => up p (mR p (hRo p hp)), ha, spot, t, io, i, pv, pk, un, rfl, hli, hat, hsp, e1, e2, e3⟩
  rcases List.mem_cons.mp hp with rfl | hp
  · exact up _ mI
  · rcases List.mem_cons.mp hp with rfl | hp
    · exact up _ mU
    · rcases List.mem_cons.mp hp with rfl | hp
      · exact up _ mS
      · rcases List.mem_cons.mp hp with rfl | hp
        · exact up _ mO
        · exact up _ (mR p (hRr p hp))
theorem at_true {items : Array Value} {spot : Nat} {v : Value} (h : items[spot]? = some v) : At items (spot + 1) spot true v := ⟨rfl, h⟩
theorem at_false {items : Array Value} {spot : Nat} {v : Value} : At items spot spot false v := rfl
end Mine

end
section
theorem Mine.rst_M8 : True := by (w_top off); first | (walk1; done) | trivial
open PySem PySem.W PyProof.Rows PySem.Calls PySem.Spec PyProof.Rows.LCg PyProof.V
set_option maxHeartbeats 4000000
namespace Mine
theorem execs_app {env : Env} (l2 : List Stmt) : ∀ l1 : List Stmt, execs (l1 ++ l2) env = (execs l1 env >>= fun f => match f with
    | .next => execs l2 env
    | f => pure f)
  | [] => by
    rw [show execs [] env = pure Flow.next from by unfold execs; rfl, pure_bind]
    rfl
  | a :: l1 => by
    rw [List.cons_append, show execs (a :: (l1 ++ l2)) env = (exec a env >>= fun f => match f with | .next => execs (l1 ++ l2) env | f => pure f) from by rw [execs]; rfl,
      show execs (a :: l1) env = (exec a env >>= fun f => match f with | .next => execs l1 env | f => pure f) from by rw [execs]; rfl, LawfulMonad.bind_assoc]
    refine congrArg _ (funext fun f => ?_)
    cases f with
    | next => exact execs_app l2 l1
    | cont => exact (pure_bind (m := Sem) _ _).symm
    | brk => exact (pure_bind (m := Sem) _ _).symm
    | ret v => exact (pure_bind (m := Sem) _ _).symm
theorem execs_mid {M : Model} {A : Around} {E : Value → Shared → Prop} {s : Shared} {env : Env} {a b c d : Stmt} {Q : Flow → Shared → Prop} (Mid : Shared → Prop)
    (h1 : wpAny M A (execs [a, b, c] env) (fun f s' => match f with
      | .next => Mid s'
      | f => Q f s') E s) (h2 : ∀ s', Mid s' → wpAny M A (execs [d] env) Q E s') : wpAny M A (execs [a, b, c, d] env) Q E s := by
  rw [show [a, b, c, d] = [a, b, c] ++ [d] from rfl, execs_app]
  refine wpAny_bind (wpAny_mono h1 (fun f s' h => ?_) fun _ _ e => e)
  cases f with
  | next => exact h2 s' h
  | cont => exact wpAny_pure h
  | brk => exact wpAny_pure h
  | ret v => exact wpAny_pure h
def MidS (h₀ : Heap) (L S Sd U IT TL AM : Addr) (h1 h2 h3 h4 h5 : Int) (t1 t2 t3 t4 t5 : Tok) (R : List (Addr × Obj)) (items : Array Value) (n : Nat) (s s' : Shared) : Prop :=
  ∃ (spot : Nat) (t : Tok) (io : Obj) (i : Nat) (pv : Value) (pk : Bool) (un : Nat) (h : Heap) (tk : Nat) (m : Str → Option Value), s' = { s with heap := h, toks := tk } ∧ Fr h₀ L h m ∧
    News h₀ L h ((IT, io) :: (U, listOf (items.toList.take spot).toArray un) :: (Sd, sDict h1 h2 h3 h4 h5 t1 t2 t3 t4 t5 U IT pv pk) :: (S, instObj 198 Sd) :: R) ∧ LI io TL i ∧ At items i spot pk pv ∧ spot ≤ n ∧
    m (Str.ofString "spot") = some (.int (spot : Nat) t) ∧ m (Str.ofString "stream") = some (.ref S) ∧ m (Str.ofString "all_marks") = some (.ref AM)
theorem execs_midS {M : Model} {A : Around} {E : Value → Shared → Prop} {s : Shared} {env : Env} {a b c d : Stmt} {Q : Flow → Shared → Prop} {h₀ : Heap} {L : Addr} {m : Str → Option Value} (_ : Fr h₀ L s.heap m) (S Sd U IT TL AM : Addr) (h1 h2 h3 h4 h5 : Int) (t1 t2 t3 t4 t5 : Tok) (R : List (Addr × Obj)) (items : Array Value) (n : Nat)
    (h1' : wpAny M A (execs [a, b, c] env) (fun f s' => match f with
      | .next => MidS h₀ L S Sd U IT TL AM h1 h2 h3 h4 h5 t1 t2 t3 t4 t5 R items n s s'
      | f => Q f s') E s) (h2' : ∀ s', MidS h₀ L S Sd U IT TL AM h1 h2 h3 h4 h5 t1 t2 t3 t4 t5 R items n s s' → wpAny M A (execs [d] env) Q E s') : wpAny M A (execs [a, b, c, d] env) Q E s := execs_mid _ h1' h2'
theorem mid_end {h₀ h : Heap} {L S Sd U IT TL AM : Addr} {h1 h2 h3 h4 h5 : Int} {t1 t2 t3 t4 t5 : Tok} {R nw : List (Addr × Obj)} {items : Array Value} {n spot i un tk : Nat} {s : Shared} {m : Str → Option Value} {io : Obj} {pv : Value} {pk : Bool} {t : Tok}
    (F : Fr h₀ L h m) (N : News h₀ L h nw) (hli : LI io TL i) (mI : (IT, io) ∈ nw) (mU : (U, listOf (items.toList.take spot).toArray un) ∈ nw) (mS : (Sd, sDict h1 h2 h3 h4 h5 t1 t2 t3 t4 t5 U IT pv pk) ∈ nw) (mO : (S, instObj 198 Sd) ∈ nw) (mR : ∀ p ∈ R, p ∈ nw)
    (hat : At items i spot pk pv) (hsp : spot ≤ n) (e1 : m (Str.ofString "spot") = some (.int (spot : Nat) t)) (e2 : m (Str.ofString "stream") = some (.ref S)) (e3 : m (Str.ofString "all_marks") = some (.ref AM)) :
    MidS h₀ L S Sd U IT TL AM h1 h2 h3 h4 h5 t1 t2 t3 t4 t5 R items n s { s with heap := h, toks := tk } := by
  refine ⟨spot, t, io, i, pv, pk, un, h, tk, m, rfl, F, news_sub N fun p hp => ?_, hli, hat, hsp, e1, e2, e3⟩
  rcases List.mem_cons.mp hp with rfl | hp
  · exact mI
  · rcases List.mem_cons.mp hp with rfl | hp
    · exact mU
    · rcases List.mem_cons.mp hp with rfl | hp
      · exact mS
      · rcases List.mem_cons.mp hp with rfl | hp
        · exact mO
        · exact mR p hp
theorem mid_end_push {h₀ h : Heap} {L S Sd U IT TL AM : Addr} {h1 h2 h3 h4 h5 : Int} {t1 t2 t3 t4 t5 : Tok} {R nw : List (Addr × Obj)} {items : Array Value} {n spot i un tk : Nat} {s : Shared} {m : Str → Option Value} {io : Obj} {pv v : Value} {pk : Bool} {t : Tok}
    (hx : items[spot]? = some v) (F : Fr h₀ L h m) (N : News h₀ L h nw) (hli : LI io TL i) (mI : (IT, io) ∈ nw) (mU : (U, listOf ((items.toList.take spot).toArray.push v) un) ∈ nw) (mS : (Sd, sDict h1 h2 h3 h4 h5 t1 t2 t3 t4 t5 U IT pv pk) ∈ nw) (mO : (S, instObj 198 Sd) ∈ nw) (mR : ∀ p ∈ R, p ∈ nw)
    (hat : At items i (spot + 1) pk pv) (hsp : spot + 1 ≤ n) (e1 : m (Str.ofString "spot") = some (.int ((spot : Int) + 1) t)) (e2 : m (Str.ofString "stream") = some (.ref S)) (e3 : m (Str.ofString "all_marks") = some (.ref AM)) :
    MidS h₀ L S Sd U IT TL AM h1 h2 h3 h4 h5 t1 t2 t3 t4 t5 R items n s { s with heap := h, toks := tk } :=
  mid_end (spot := spot + 1) F N hli mI (take_push hx ▸ mU) mS mO mR hat hsp e1 e2 e3
section
variable {prog : Program} {w : World} {A : Around} {E : Value → Shared → Prop} {s : Shared} {h₀ : Heap} {L : Addr} {m : Str → Option Value} {news : List (Addr × Obj)} {a b c d : Addr} {x y x2 y2 : Str} {k : Int} {t1 t2 t3 u1 u2 u3 : Tok} {n1 n2 n3 : Nat} {Q : Value → Shared → Prop}
/-- ('mark', a fresh pair) against ('mark', a pair that reads the same). -/
theorem ne_mark (N : News h₀ L s.heap news) (ha : (a, (⟨.type "tuple", none, .seq #[.str (Str.ofString "mark") t1, .ref c] n1, #[]⟩ : Obj)) ∈ news) (hc : (c, (⟨.type "tuple", none, .seq #[.str x t2, .str y t3] n3, #[]⟩ : Obj)) ∈ news)
    (hb : (b, (⟨.type "tuple", none, .seq #[.str (Str.ofString "mark") u1, .ref d] n2, #[]⟩ : Obj)) ∈ news) {n4 : Nat} (hd : s.heap.get? d = some (⟨.type "tuple", none, .seq #[.str x u2, .str y u3] n4, #[]⟩ : Obj))
    (ox : PyData.strOk x = true) (oy : PyData.strOk y = true) (hu : A.units + 64 < cLine) (h : Q (.bool false) s) : wpAny (model prog w) A (compareOp .NotEq (.ref a) (.ref b)) Q E s := by
  have R : ∀ {a c : Addr} {t1 t2 t3 : Tok} {n1 n2 : Nat}, s.heap.get? a = some (⟨.type "tuple", none, .seq #[.str (Str.ofString "mark") t1, .ref c] n1, #[]⟩ : Obj) → s.heap.get? c = some (⟨.type "tuple", none, .seq #[.str x t2, .str y t3] n2, #[]⟩ : Obj) →
      Reads s.heap (.ref a) (.tuple [.str (Str.ofString "mark"), .tuple [.str x, .str y]]) [] := fun e1 e2 =>
    Reads.tuple (as := []) e1 rfl rfl (ReadsAll.cons (as := []) (bs := []) (.str _ _) (ReadsAll.cons (as := []) (bs := []) (reads2 e2) .nil))
  have om : PyData.strOk (Str.ofString "mark") = true := by decide +kernel
  exact ne_reads (R (N _ ha).1 (N _ hc).1) (R (N _ hb).1 hd) (by simp [PySem.SeqAt.shaped, PyData.canLay0, PyData.canLayAll0, ox, oy, om, PyData.depth, PyData.depthAll]) (by simp [PyData.eqv, PyData.eqvAll]) hu h
theorem eq_pairs (N : News h₀ L s.heap news) (ha : s.heap.get? a = some (⟨.type "tuple", none, .seq #[.str x t1, .str y t2] n1, #[]⟩ : Obj)) (hb : (b, (⟨.type "tuple", none, .seq #[.str x2 u1, .str y2 u2] n2, #[]⟩ : Obj)) ∈ news)
    (ox : PyData.strOk x = true) (oy : PyData.strOk y = true) (ox2 : PyData.strOk x2 = true) (oy2 : PyData.strOk y2 = true) (hu : A.units + 64 < cLine) (h : Q (.bool ((x == x2) && (y == y2))) s) : wpAny (model prog w) A (compareOp .Eq (.ref a) (.ref b)) Q E s :=
  eq_dataH (reads2 ha) (reads2 (N _ hb).1) (sh2 ox oy) (sh2 ox2 oy2) hu (by simpa [PyData.eqv, PyData.eqvAll] using h)
end
theorem regroup {h₀ h : Heap} {L IT U Sd S TL : Addr} {io oI : Obj} {us : Array Value} {un i : Nat} {h1 h2 h3 h4 h5 : Int} {t1 t2 t3 t4 t5 : Tok} {pv : Value} {pk : Bool} {R : List (Addr × Obj)} (X : List (Addr × Obj))
    (N : News h₀ L h (X ++ (IT, io) :: (U, listOf us un) :: (Sd, sDict h1 h2 h3 h4 h5 t1 t2 t3 t4 t5 U IT pv pk) :: (S, oI) :: R)) (hX : ∀ p ∈ X, p.2.cls = .type "tuple") (hli : LI io TL i) (o4 : ∀ p ∈ R, p.1 ≠ IT) (o7 : ∀ p ∈ R, p.1 ≠ U) (o9 : ∀ p ∈ R, p.1 ≠ Sd) :
    ∃ R2, News h₀ L h ((IT, io) :: (U, listOf us un) :: (Sd, sDict h1 h2 h3 h4 h5 t1 t2 t3 t4 t5 U IT pv pk) :: (S, oI) :: R2) ∧ (∀ p ∈ X, p ∈ R2) ∧ (∀ p ∈ R, p ∈ R2) ∧ (∀ p ∈ R2, p.1 ≠ IT) ∧ (∀ p ∈ R2, p.1 ≠ U) ∧ (∀ p ∈ R2, p.1 ≠ Sd) := by
  have key : ∀ {z : Addr} {o : Obj}, (z, o) ∈ X ++ (IT, io) :: (U, listOf us un) :: (Sd, sDict h1 h2 h3 h4 h5 t1 t2 t3 t4 t5 U IT pv pk) :: (S, oI) :: R → o.cls ≠ .type "tuple" → (∀ p ∈ R, p.1 ≠ z) → ∀ p ∈ X ++ R, p.1 ≠ z := by
    intro z o hz hc hR p hp e
    rcases List.mem_append.mp hp with hp | hp
    · have a := (N p (List.mem_append_left _ hp)).1
      have b := (N _ hz).1
      rw [e] at a
      rw [a] at b
      cases b
      exact hc (hX p hp)
    · exact hR p hp e
  refine ⟨X ++ R, news_sub N fun p hp => ?_, fun p hp => List.mem_append_left _ hp, fun p hp => List.mem_append_right _ hp, key (o := io) (by simp) ?_ o4, key (o := listOf us un) (by simp) ?_ o7, key (o := sDict h1 h2 h3 h4 h5 t1 t2 t3 t4 t5 U IT pv pk) (by simp) ?_ o9⟩
  · simp only [List.mem_cons, List.mem_append] at hp ⊢
    rcases hp with h | h | h | h | h | h <;> simp [h]
  · rw [hli.1]; decide
  · show Value.type "list" ≠ Value.type "tuple"; decide
  · show Value.type "dict" ≠ Value.type "tuple"; decide
end Mine

end
section
theorem Mine.rst_M9 : True := by (w_top off); first | (walk1; done) | trivial
open PySem PySem.W PyProof.Rows PySem.Calls PySem.Spec PyProof.Rows.LCg PyProof.V
set_option maxHeartbeats 4000000
namespace Mine
def WhE (h₀ : Heap) (L S AM : Addr) (nw : List (Addr × Obj)) (marks : List (Str × Str)) (n spot₀ : Nat) (s : Shared) (sp : Nat) (s' : Shared) : Prop :=
  ∃ (sp' : Nat) (t : Tok) (h : Heap) (tk : Nat) (m : Str → Option Value), sp < sp' ∧ s' = { s with heap := h, toks := tk } ∧ Fr h₀ L h m ∧ News h₀ L h nw ∧ sp' ≤ n ∧ skipTo marks sp' = skipTo marks spot₀ ∧
    m (Str.ofString "spot") = some (.int (sp' : Nat) t) ∧ m (Str.ofString "stream") = some (.ref S) ∧ m (Str.ofString "all_marks") = some (.ref AM)
theorem whE_next {h₀ h : Heap} {L S AM : Addr} {nw : List (Addr × Obj)} {marks : List (Str × Str)} {n spot₀ sp tk : Nat} {s : Shared} {m : Str → Option Value} {t : Tok} {va vb : Str} (F : Fr h₀ L h m) (N : News h₀ L h nw) (hlt : sp < n) (hm : marks[sp]? = some (va, vb)) (hS : (va == Str.ofString "S") = true) (hk : skipTo marks sp = skipTo marks spot₀)
    (e1 : m (Str.ofString "spot") = some (.int ((sp : Int) + 1) t)) (e2 : m (Str.ofString "stream") = some (.ref S)) (e3 : m (Str.ofString "all_marks") = some (.ref AM)) :
    WhE h₀ L S AM nw marks n spot₀ s sp { s with heap := h, toks := tk } := ⟨sp + 1, t, h, tk, m, Nat.lt_succ_self _, rfl, F, N, hlt, (skipTo_S hm hS).trans hk, e1, e2, e3⟩
theorem whl_W {prog : Program} {w : World} {A : Around} {E : Value → Shared → Prop} {s : Shared} {env : Env} {test : PySem.Expr} {body orelse : List Stmt} {Q : Flow → Shared → Prop} {h₀ : Heap} {L : Addr} {m : Str → Option Value} {nw : List (Addr × Obj)} {t₀ : Tok}
    (F : Fr h₀ L s.heap m) (N : News h₀ L s.heap nw) (S AM : Addr) (marks : List (Str × Str)) (n spot₀ : Nat) (hE : PassesOwn (model prog w) A env E) (hsp : spot₀ ≤ n)
    (e1 : m (Str.ofString "spot") = some (.int (spot₀ : Nat) t₀)) (e2 : m (Str.ofString "stream") = some (.ref S)) (e3 : m (Str.ofString "all_marks") = some (.ref AM))
    (turn : ∀ (sp : Nat) (t : Tok) (h : Heap) (tk : Nat) (m : Str → Option Value), Fr h₀ L h (lawMap S AM sp t m) → News h₀ L h nw → sp ≤ n → skipTo marks sp = skipTo marks spot₀ →
      wpAny (model prog w) A (isTrue test env (eval test env)) (fun b s₂ => WhlIf b (wpAny (model prog w) A (execs body env) (fun f s₃ => match f with
        | .next => WhE h₀ L S AM nw marks n spot₀ s sp s₃
        | .cont => WhE h₀ L S AM nw marks n spot₀ s sp s₃
        | .brk => Q .next s₃
        | .ret v => Q (.ret v) s₃) E s₂) (wpAny (model prog w) A (execs orelse env) Q E s₂)) E { s with heap := h, toks := tk }) :
    WhlRest prog w A E env test body orelse Q 0 s := by
  refine whl_inv (fun k s' => ∃ (sp : Nat) (t : Tok) (h : Heap) (tk : Nat) (m : Str → Option Value), k = n + 1 - sp ∧ s' = { s with heap := h, toks := tk } ∧ Fr h₀ L h m ∧ News h₀ L h nw ∧ sp ≤ n ∧ skipTo marks sp = skipTo marks spot₀ ∧
    m (Str.ofString "spot") = some (.int (sp : Nat) t) ∧ m (Str.ofString "stream") = some (.ref S) ∧ m (Str.ofString "all_marks") = some (.ref AM)) hE (n + 1 - spot₀) ⟨spot₀, t₀, s.heap, s.toks, m, rfl, rfl, F, N, hsp, rfl, e1, e2, e3⟩ ?_
  rintro k s' ⟨sp, t, h, tk, m', hk, rfl, F', N', hsp', hskip, e1', e2', e3'⟩
  have up : ∀ s₃, WhE h₀ L S AM nw marks n spot₀ s sp s₃ → ∃ k', k' < k ∧ ∃ (sp : Nat) (t : Tok) (h : Heap) (tk : Nat) (m : Str → Option Value), k' = n + 1 - sp ∧ s₃ = { s with heap := h, toks := tk } ∧ Fr h₀ L h m ∧ News h₀ L h nw ∧ sp ≤ n ∧ skipTo marks sp = skipTo marks spot₀ ∧
      m (Str.ofString "spot") = some (.int (sp : Nat) t) ∧ m (Str.ofString "stream") = some (.ref S) ∧ m (Str.ofString "all_marks") = some (.ref AM) := by
    rintro s₃ ⟨sp', t', h', tk', m', hlt, rfl, x1, x2, x3, x4, x5, x6, x7⟩
    exact ⟨n + 1 - sp', by omega, sp', t', h', tk', m', rfl, rfl, x1, x2, x3, x4, x5, x6, x7⟩
  refine wpAny_mono (turn sp t h tk m' (lawMap_eq e1' e2' e3' ▸ F') N' hsp' hskip) (fun b s₂ z => ?_) fun _ _ x => x
  cases b with
  | false => exact z
  | true =>
    unfold WhlIf at z ⊢
    rw [if_pos rfl] at z ⊢
    refine wpAny_mono z (fun f s₃ y => ?_) fun _ _ x => x
    cases f with
    | next => exact up s₃ y
    | cont => exact up s₃ y
    | brk => exact y
    | ret v => exact y
end Mine

end
section
theorem Mine.rst_parts : True := by (w_top off); first | (walk1; done) | trivial
set_option maxHeartbeats 100000000
open PySem PySem.W PyProof.Rows PySem.Calls
namespace Mine
local macro_rules | `(tactic| walk_at "eval Name") => `(tactic| (k_here; (fail_if_success k_inBlock); k_dflt (first | (refine' nameX_L ?F ?v ?_ ?a ?b ?d; (case b => kernel_rfl); (case d => kernel_rfl); (case F => k_asm); (case a => rfl); (case v => rfl); k_whole) | (refine' nameX_C ?N ?c ?m ?d ?_ ?a ?b ?e; (case b => kernel_rfl); (case e => kernel_rfl); (case a => rfl); (case N => k_asm); (case c => rfl); (case m => k_mem); (case d => k_asm); k_whole) | (refine' nameX_K ?F ?X ?T ?e ?_ ?a ?b ?d; (case b => kernel_rfl); (case d => kernel_rfl); (case F => k_asm); (case X => k_asm); (case T => k_asm); (case a => rfl); (case e => k_is); k_whole) | (refine' nameX_B ?F ?X ?T ?e ?v ?n ?_ ?a ?b ?d; (case b => kernel_rfl); (case d => kernel_rfl); (case F => k_asm); (case X => k_asm); (case T => k_asm); (case a => rfl); (case e => k_is); (case v => boot_fast); (case n => decide); k_whole))))
local macro_rules | `(tactic| walk_at "storeName") => `(tactic| (k_here; k_dflt (first | (refine' storeX_L ?F ?N ?_ ?a ?b; (case b => kernel_rfl); (case F => k_asm); (case N => k_asm); (case a => rfl); k_whole; intro h' F' N'; (try k_sweep)) | (refine' storeX_C ?F ?N ?c ?U ?d ?_ ?a ?b; (case b => kernel_rfl); (case a => rfl); (case F => k_asm); (case N => k_asm); (case c => rfl); (case U => k_updF); (case d => k_asm); k_whole; intro h' o' F' N' d'; (try dsimp only at N'); (try k_sweep)))))
local macro_rules | `(tactic| walk_at "spliced") => `(tactic| first | with_reducible refine args_cons ?_ (by with_unfolding_all rfl) | with_reducible refine args_nil ⟨Fr.keep (by assumption) _ _ (by assumption), ?_⟩ | (with_reducible refine args_nil ?_; try simp only [List.cons_append, List.nil_append]))
local macro_rules | `(tactic| k_mem) => `(tactic| assumption)
local macro_rules | `(tactic| k_all) => `(tactic| assumption)
local macro_rules | `(tactic| k_ne) => `(tactic| first | assumption | exact Ne.symm (by assumption))
local macro_rules | `(tactic| k_inst) => `(tactic| (refine' instAt_seq ?N ?h1 ?h2; (case N => k_asm); (case h1 => k_mem); (case h2 => k_mem)))
local macro_rules | `(tactic| walk_at "my_depth") => `(tactic| ((try simp only [depth_under_make, depth_under_kw, depth_in1, depth_deeper, depth_caller]); (try dsimp only [ktrTop]); omega))
local macro_rules | `(tactic| walk_at "my_units") => `(tactic| ((try simp only [units_under_make, units_in1, units_deeper, Around.mark_units, units_caller]); (try dsimp only [ktrTop]); omega))
local macro_rules | `(tactic| walk_at "my_enter") => `(tactic| (refine' code_def ?k1 ?k2 ?k3 ?k4 ?k5 ?kA ?kF ?kK ?k6 ?k7 ?k8 ?k9 ?kB ?_ ?c2 ?c3 ?c4 ?c5; (case kA => exact rfl); (case kF => exact rfl); (case kK => first | assumption | exact rfl); (case k1 => k_asm); (case k2 => k_asm); (case k3 => k_asm); (case k4 => k_asm); (case k5 => k_asm); (case k6 => k_is); (case k7 => k_is); (case k8 => ktr_room); (case k9 => exact BindsTo.of_eq rfl); (case c5 => decide); (case kB => exact locs rfl); (case c2 => exact rfl); (case c3 => exact rfl); (case c4 => exact rfl); k_whole; intro g' L' h' FG' F' N' B' X' T'; (try dsimp only); (try k_lift B'); (try k_fold)))

local macro_rules | `(tactic| walk_at "getAttr ref") => `(tactic| (k_here; (with_reducible show wpAny _ _ (getAttr (Value.ref _) (Str.ofString "type") _) _ _ _); k_dflt ((first | refine' type107_ct (cl := []) ?B ?F ?X ?T ?k ?d ?u ?N ?x ?y ?h ?_ | refine' type135_ct (cl := []) ?B ?F ?X ?T ?k ?d ?u ?N ?x ?y ?h ?_); (case B => k_asm); (case F => k_asm); (case X => k_asm); (case T => k_asm); (case k => first | assumption | rfl); (case d => walk_at "my_depth"); (case u => walk_at "my_units"); (case N => k_asm); (case x => k_mem); (case y => k_mem); (case h => first | assumption | rfl); intro h' tk' F' N')))
local macro_rules | `(tactic| walk_at "getAttr ref") => `(tactic| (k_here; (with_reducible show wpAny _ _ (getAttr (Value.ref _) (Str.ofString "value") _) _ _ _); k_dflt ((first | refine' value107_ct (cl := []) ?B ?F ?X ?T ?k ?d ?u ?N ?x ?y ?h ?_ | refine' value135_ct (cl := []) ?B ?F ?X ?T ?k ?d ?u ?N ?x ?y ?h ?_); (case B => k_asm); (case F => k_asm); (case X => k_asm); (case T => k_asm); (case k => first | assumption | rfl); (case d => walk_at "my_depth"); (case u => walk_at "my_units"); (case N => k_asm); (case x => k_mem); (case y => k_mem); (case h => first | assumption | rfl); intro h' tk' F' N')))
local macro_rules | `(tactic| walk_at "getAttr ref") => `(tactic| (k_here; (with_reducible show wpAny _ _ (getAttr (Value.ref _) (Str.ofString "pos") _) _ _ _); k_dflt (refine' tok_own ?F ?X ?I ?g ?h ?m ?hd ?a ?n ?l ?hh ?_; (case F => k_asm); (case X => k_asm); (case I => k_inst); (case g => k_is); (case h => k_is); (case m => k_is); (case hd => k_is); (case a => k_is); (case n => k_is); (case l => k_get); (case hh => k_handed); k_whole)))
local macro_rules | `(tactic| walk_at "ite") => `(tactic| (k_closed; first | (with_reducible refine my_iteT (by with_unfolding_all rfl) ?_) | (with_reducible refine my_iteF (by with_unfolding_all rfl) ?_)))

local macro_rules | `(tactic| walk_at "call ref") => `(tactic| (k_here; k_dflt ((show wpAny _ _ (call (Value.ref 107) [_, _, _]) _ _ _); (refine' token_ct (outer := []) ?B ?F ?X ?T ?k ?d ?u ?N ?_; (case B => k_asm); (case F => k_asm); (case X => k_asm); (case T => k_asm); (case k => first | assumption | rfl); (case d => first | ktr_room | walk_at "my_depth"); (case u => first | ktr_units | walk_at "my_units"); (case N => k_asm); intro x' xd' hp' tp' h' tk' F' N' n1 n2 n3)); (try dsimp only)))
local macro_rules | `(tactic| walk_at "call ref") => `(tactic| (k_here; k_dflt ((show wpAny _ _ (call (Value.ref 135) [_]) _ _ _); (refine' eof_ct (outer := []) ?B ?F ?X ?T ?k ?d ?u ?N ?_; (case B => k_asm); (case F => k_asm); (case X => k_asm); (case T => k_asm); (case k => first | assumption | rfl); (case d => first | ktr_room | walk_at "my_depth"); (case u => first | ktr_units | walk_at "my_units"); (case N => k_asm); intro x' xd' hp' te' tp' h' tk' F' N' n1 n2 n3)); (try dsimp only)))
local macro_rules | `(tactic| walk_at "call builtin:len") => `(tactic| (k_here; k_dflt (refine' len_N ?N ?m ?c ?d ?k ?s ?_; (case N => k_asm); (case m => k_mem); (case c => rfl); (case d => rfl); (case k => exact refs_size); (case s => omega))))
local macro_rules | `(tactic| walk_at "binaryOp Add ref ref") => `(tactic| (k_here; k_dflt (refine' add_N ?F ?N ?l ?b ?z ?_; (case F => k_asm); (case N => k_asm); (case l => k_mem); (case b => k_mem); (case z => (simp only [refs, List.length_map, List.length_cons, List.length_nil]; omega))); intro x' h' F' N' n1))
local macro_rules | `(tactic| walk_at "call builtin:iter") => `(tactic| (k_here; (with_reducible show wpAny _ _ (call (Value.builtin "iter") [Value.ref _]) _ _ _); k_dflt ((refine' iter_li ?F ?N ?p ?c ?d ?_; (case F => k_asm); (case N => k_asm); (case p => k_mem); (case c => rfl); (case d => rfl); intro I' h' o' F' N' l1 hi'; (try k_lt l1)))))
local macro_rules | `(tactic| walk_at "subscriptTail") => `(tactic| (k_here; (with_reducible show wpAny _ _ (subscriptTail _ _ (Value.ref _) (Value.int (Nat.cast _) _)) _ _ _); k_dflt (refine' item_N ?N ?m ?k ?x ?_ ?s; (case N => k_asm); (case m => k_mem); (case k => omega); (case x => assumption); (case s => with_unfolding_all rfl))))
local macro_rules | `(tactic| walk_at "subscriptTail Name Name ref int") => `(tactic| (k_here; (with_reducible show wpAny _ _ (subscriptTail _ _ (Value.ref _) (Value.int (Nat.cast _) _)) _ _ _); k_dflt (refine' item_N ?N ?m ?k ?x ?_ ?s; (case N => k_asm); (case m => k_mem); (case k => omega); (case x => assumption); (case s => with_unfolding_all rfl))))
local macro_rules | `(tactic| walk_at "subscriptTail") => `(tactic| (k_here; (with_reducible show wpAny _ _ (subscriptTail _ _ (Value.ref _) (Value.int 0 _)) _ _ _); k_dflt (refine' tup0 ?g ?_ ?s; (case g => first | exact Fr.keep (by k_asm) _ _ (by assumption) | exact news_get (by k_asm) (by assumption) | exact news_get (by k_asm) (by k_mem)); (case s => with_unfolding_all rfl))))
local macro_rules | `(tactic| walk_at "subscriptTail Name Constant ref int") => `(tactic| (k_here; (with_reducible show wpAny _ _ (subscriptTail _ _ (Value.ref _) (Value.int 0 _)) _ _ _); k_dflt (refine' tup0 ?g ?_ ?s; (case g => first | exact Fr.keep (by k_asm) _ _ (by assumption) | exact news_get (by k_asm) (by assumption) | exact news_get (by k_asm) (by k_mem)); (case s => with_unfolding_all rfl))))
local macro_rules | `(tactic| walk_at "subscriptTail Subscript Constant ref int") => `(tactic| (k_here; (with_reducible show wpAny _ _ (subscriptTail _ _ (Value.ref _) (Value.int 0 _)) _ _ _); k_dflt (refine' tup0 ?g ?_ ?s; (case g => first | exact Fr.keep (by k_asm) _ _ (by assumption) | exact news_get (by k_asm) (by assumption) | exact news_get (by k_asm) (by k_mem)); (case s => with_unfolding_all rfl))))
local macro_rules | `(tactic| walk_at "subscriptTail") => `(tactic| (k_here; (with_reducible show wpAny _ _ (subscriptTail _ _ (Value.ref _) (Value.int 1 _)) _ _ _); k_dflt (refine' tup1 ?g ?_ ?s; (case g => first | exact Fr.keep (by k_asm) _ _ (by assumption) | exact news_get (by k_asm) (by assumption) | exact news_get (by k_asm) (by k_mem)); (case s => with_unfolding_all rfl))))
local macro_rules | `(tactic| walk_at "subscriptTail Name Constant ref int") => `(tactic| (k_here; (with_reducible show wpAny _ _ (subscriptTail _ _ (Value.ref _) (Value.int 1 _)) _ _ _); k_dflt (refine' tup1 ?g ?_ ?s; (case g => first | exact Fr.keep (by k_asm) _ _ (by assumption) | exact news_get (by k_asm) (by assumption) | exact news_get (by k_asm) (by k_mem)); (case s => with_unfolding_all rfl))))
local macro_rules | `(tactic| walk_at "call ref") => `(tactic| (k_here; k_dflt ((show wpAny _ _ (call (Value.ref 174) [Value.ref _]) _ _ _); (refine' peek_ct (outer := []) ?B ?F ?X ?T ?k ?d ?u ?N ?i ?l ?a ?x ?o1 ?o2 ?o3 ?o4 ?o5 ?o6 ?o7 ?o8 ?o9 ?oa ?ob ?oc ?_; (case B => k_asm); (case F => k_asm); (case X => k_asm); (case T => k_asm); (case k => first | assumption | rfl); (case d => first | ktr_room | walk_at "my_depth"); (case u => first | ktr_units | walk_at "my_units"); (case N => k_asm); (case i => k_asm); (case l => k_mem); (case a => first | assumption | exact at_true (by assumption)); (case x => assumption); (case o1 => assumption); (case o2 => assumption); (case o3 => assumption); (case o4 => assumption); (case o5 => assumption); (case o6 => assumption); (case o7 => assumption); (case o8 => assumption); (case o9 => assumption); (case oa => assumption); (case ob => assumption); (case oc => assumption); intro io' h' tk' F' N' hi')); (try dsimp only)))
local macro_rules | `(tactic| walk_at "getAttr ref") => `(tactic| (k_here; (with_reducible show wpAny _ _ (getAttr (Value.ref _) (Str.ofString "type") _) _ _ _); k_dflt ((refine' type107_ct ?B ?F ?X ?T ?k ?d ?u ?N ?x ?y ?h ?_); (case B => k_asm); (case F => k_asm); (case X => k_asm); (case T => k_asm); (case k => first | assumption | rfl); (case d => first | ktr_room | walk_at "my_depth"); (case u => first | ktr_units | walk_at "my_units"); (case N => k_asm); (case x => k_mem); (case y => k_mem); (case h => first | assumption | rfl); intro h' tk' F' N')))
local macro_rules | `(tactic| walk_at "getAttr ref") => `(tactic| (k_here; (with_reducible show wpAny _ _ (getAttr (Value.ref _) (Str.ofString "type") _) _ _ _); k_dflt ((refine' type135_ct ?B ?F ?X ?T ?k ?d ?u ?N ?x ?y ?h ?_); (case B => k_asm); (case F => k_asm); (case X => k_asm); (case T => k_asm); (case k => first | assumption | rfl); (case d => first | ktr_room | walk_at "my_depth"); (case u => first | ktr_units | walk_at "my_units"); (case N => k_asm); (case x => k_mem); (case y => k_mem); (case h => first | assumption | rfl); intro h' tk' F' N')))
local macro_rules | `(tactic| walk_at "getAttr ref") => `(tactic| (k_here; (with_reducible show wpAny _ _ (getAttr (Value.ref _) (Str.ofString "value") _) _ _ _); k_dflt ((refine' value107_ct ?B ?F ?X ?T ?k ?d ?u ?N ?x ?y ?h ?_); (case B => k_asm); (case F => k_asm); (case X => k_asm); (case T => k_asm); (case k => first | assumption | rfl); (case d => first | ktr_room | walk_at "my_depth"); (case u => first | ktr_units | walk_at "my_units"); (case N => k_asm); (case x => k_mem); (case y => k_mem); (case h => first | assumption | rfl); intro h' tk' F' N')))
local macro_rules | `(tactic| walk_at "getAttr ref") => `(tactic| (k_here; (with_reducible show wpAny _ _ (getAttr (Value.ref _) (Str.ofString "value") _) _ _ _); k_dflt ((refine' value135_ct ?B ?F ?X ?T ?k ?d ?u ?N ?x ?y ?h ?_); (case B => k_asm); (case F => k_asm); (case X => k_asm); (case T => k_asm); (case k => first | assumption | rfl); (case d => first | ktr_room | walk_at "my_depth"); (case u => first | ktr_units | walk_at "my_units"); (case N => k_asm); (case x => k_mem); (case y => k_mem); (case h => first | assumption | rfl); intro h' tk' F' N')))

def cellF (ns : List Int) (i : Int) : Int := if i < (ns.length : Int) then ((ns.getD i.toNat 0).natAbs : Int) % 1000003 else 5 * i + 2
structure Rest (gT gA0 gA1 gA2 gA3 gA4 gB0 gB1 gB2 gB3 gB4 gD gM1 gM2 : Prop) : Prop where
  pT : gT
  pA0 : gA0
  pA1 : gA1
  pA2 : gA2
  pA3 : gA3
  pA4 : gA4
  pB0 : gB0
  pB1 : gB1
  pB2 : gB2
  pB3 : gB3
  pB4 : gB4
  pD : gD
  pM1 : gM1
  pM2 : gM2
noncomputable def parts : { g : Prop × Prop × Prop × Prop × Prop × Prop × Prop × Prop × Prop × Prop × Prop × Prop × Prop × Prop // Rest (g.1) (g.2.1) (g.2.2.1) (g.2.2.2.1) (g.2.2.2.2.1) (g.2.2.2.2.2.1) (g.2.2.2.2.2.2.1) (g.2.2.2.2.2.2.2.1) (g.2.2.2.2.2.2.2.2.1) (g.2.2.2.2.2.2.2.2.2.1) (g.2.2.2.2.2.2.2.2.2.2.1) (g.2.2.2.2.2.2.2.2.2.2.2.1) (g.2.2.2.2.2.2.2.2.2.2.2.2.1) (g.2.2.2.2.2.2.2.2.2.2.2.2.2) → PySem.Challenge.rw_ez0041_01.Holds } := by
  refine' ⟨(_, _, _, _, _, _, _, _, _, _, _, _, _, _), fun hR9 => hd ?walk⟩
  case walk =>
  k_with "tree" => simp only [cellF]
  k_with "call ref" => k_call_by "_law_cell" cellF (fun (_ : List Int) (i : Int) => 0 ≤ i)
  k_go0
  (all_goals try k_fold)
  repeat ((fail_if_success (with_reducible show LCg.CompSrc _ _ _ _ _ _ _ _ _ _ _ _ _ _)); (first | (k_unfold; (try dsimp only)) | walk1 | (dsimp only; walk1) | (leave1; walk_say "STEP leave1"; try dsimp only)))
  refine LCg.CompSrc.range (n := ((cellF _ 0).fmod 9).toNat) rfl (by assumption) (by assumption) (by assumption) (src_small (fmod9 _).1 (Int.lt_trans (fmod9 _).2 (by decide))) (src_size (fmod9 _).1) (src_line (by have := fmod9 (cellF ‹List Int› 0); omega)) (fun g => cr_inv MkJ trivial ?_ ?_ _ 0 [] (Nat.zero_add _) ⟨[], rfl, fun _ h => (by simp at h), rfl⟩)
  case' _ =>
    intro i ys hi j v I oI C oC D m₂ h tk E' hP hns hm F N
    obtain ⟨t, rfl⟩ := hP
    skip
    (rename World => w9)
    revert w9
    repeat (rename_i zz9; revert zz9)
    repeat (first | revert g | revert hwy | revert w | revert ks | revert hks | revert hkl | revert hn8 | revert i | revert t | revert ts | revert io | revert i2 | revert pv | revert pk | revert un' | revert own2 | revert R | revert hR | revert h1 | revert h2 | revert h3 | revert h4 | revert h5 | revert t1 | revert t2 | revert t3 | revert t4 | revert t5 | revert S | revert Sd | revert U | revert IT | revert TL | revert AM | revert De | revert tE | revert t0 | revert items | revert rest | revert io0 | revert un0 | revert tn | revert an | revert en | revert mm | revert spot | revert kk | revert va | revert vb | revert ta | revert tad | revert tva | revert tvb | revert tj | revert tp | revert hp | revert td1 | revert td2 | revert tdn | revert D | revert oI | revert oC | revert v | revert j | revert k | revert x | revert e | revert oe | revert it | revert oit | revert oC | revert m₁ | revert nx | revert h | revert tk | revert ys | revert news | revert M | revert E' | revert I | revert C | revert m₂ | revert n | revert own | revert N9)
    skip -- @M1
  rotate_left
  case' _ =>
    intro ys hys M h tk F N off
    obtain ⟨ks, hkl, hks, rfl⟩ := hys
    have hn8 : ks.length ≤ 8 := by have := fmod9 (cellF ‹List Int› 0); omega
    dsimp only
    iterate 3 (first | (k_unfold; (try dsimp only)) | walk1 | (dsimp only; walk1) | (leave1; walk_say "STEP leave1"; try dsimp only))
    k_dflt (refine en_ListComp (cl := []) (by k_asm) (by with_unfolding_all rfl) (by decide) (by rfl) (by decide) (by rfl) (by rfl) (by decide) ?_)
    repeat ((fail_if_success (show wpAny _ _ (call (.type "enumerate") [_]) _ _ _)); (first | (k_unfold; (try dsimp only)) | walk1 | (dsimp only; walk1) | (leave1; walk_say "STEP leave1"; try dsimp only)))
    k_dflt (refine en_call (TkJ ks _) rfl (by k_asm) (by k_asm) (List.Mem.head _) rfl ⟨_, rfl⟩ (by rw [refs_size]; exact src_line (by omega)) TkJ.nil (fun g => ?_) ?_)
    case' _ =>
      intro i ys news x t e oe it oit C oC D m₂ h tk E' hi hx hyl j hns ha hb F N
      obtain ⟨n, hn, rfl⟩ := refs_get hx
      (rename World => w9)
      revert w9
      repeat (rename_i zz9; revert zz9)
      repeat (first | revert g | revert hwy | revert w | revert ks | revert hks | revert hkl | revert hn8 | revert i | revert t | revert ts | revert io | revert i2 | revert pv | revert pk | revert un' | revert own2 | revert R | revert hR | revert h1 | revert h2 | revert h3 | revert h4 | revert h5 | revert t1 | revert t2 | revert t3 | revert t4 | revert t5 | revert S | revert Sd | revert U | revert IT | revert TL | revert AM | revert De | revert tE | revert t0 | revert items | revert rest | revert io0 | revert un0 | revert tn | revert an | revert en | revert mm | revert spot | revert kk | revert va | revert vb | revert ta | revert tad | revert tva | revert tvb | revert tj | revert tp | revert hp | revert td1 | revert td2 | revert tdn | revert D | revert oI | revert oC | revert v | revert j | revert k | revert x | revert e | revert oe | revert it | revert oit | revert oC | revert m₁ | revert nx | revert h | revert tk | revert ys | revert news | revert M | revert E' | revert I | revert C | revert m₂ | revert n | revert own | revert N9)
      skip -- @M2
    rotate_left
    case' _ =>
      intro TL h tk ys news F N off j
      skip
      obtain ⟨own, rfl, hyl, htok⟩ := j
      rw [refs_size] at hyl htok
      replace N := led3 N
      skip
      repeat ((fail_if_success (with_reducible show wpAny _ _ (exec (Stmt.For _ _ _ _ _) _) _ _ _)); (first | (k_unfold; (try dsimp only)) | walk1 | (dsimp only; walk1) | (leave1; walk_say "STEP leave1"; try dsimp only)))
      obtain ⟨S, Sd, U, IT, TL, AM, De, h1, h2, h3, h4, h5, t1, t2, t3, t4, t5, tE, t0, items, rest, io0, un0, tn, an, en, mm, N9, AP, hAM, hEO, hTL, KT, hcell, hli0, F9⟩ := law_start2 (by assumption) (by k_asm) (by with_unfolding_all rfl) (by with_unfolding_all rfl) (by with_unfolding_all rfl) (by assumption) (by assumption) (by assumption) (by assumption) (by assumption) (by assumption) (by assumption) hks hn8 hyl htok
      repeat ((fail_if_success (with_reducible show wpAny _ _ (pyIter _) _ _ _)); (first | (k_unfold; (try dsimp only)) | walk1 | (dsimp only; walk1) | (leave1; walk_say "STEP leave1"; try dsimp only)))
      refine rng_inv (LJ S Sd U IT TL AM h1 h2 h3 h4 h5 t1 t2 t3 t4 t5 rest items ks.length) rfl (by assumption) (src_small (rb _).1 (rb _).2) (src_size (rb _).1) (by assumption) (by assumption) (lj_start KT hli0 (by with_unfolding_all rfl) (by with_unfolding_all rfl) (by with_unfolding_all rfl)) ?_ ?_
      case' _ =>
        intro i t m₁ nx h tk own2 hi hadr hoff hJ F N
        obtain ⟨spot, ts, io, i2, pv, pk, un', rfl, hli, hat, hsp, e1, e2, e3⟩ := hJ
        rw [lawMap_eq e1 e2 e3] at F
        obtain ⟨R, hR⟩ : ∃ R, R = rest ++ own2 := ⟨_, rfl⟩
        simp only [List.cons_append] at N
        have AQ := AP.more hoff (by simp) (by simp) (by simp) (by simp)
        have KR : Toks R _ _ := KT.mono (by subst hR; simp +contextual)
        rw [← hR] at N AQ
        replace hAM := (show _ ∈ R by subst hR; exact List.mem_append_left _ hAM)
        replace hEO := (show _ ∈ R by subst hR; exact List.mem_append_left _ hEO)
        replace hTL := (show _ ∈ R by subst hR; exact List.mem_append_left _ hTL)
        replace hcell := (show _ ∈ R by subst hR; exact List.mem_append_left _ hcell)
        have hRr : ∀ p ∈ rest, p ∈ R := by rw [hR]; exact fun p hp => List.mem_append_left _ hp
        have hRo : ∀ p ∈ own2, p ∈ R := by rw [hR]; exact fun p hp => List.mem_append_right _ hp
        have hn9 : (ks.map tbl).length = ks.length := List.length_map ..
        have hrfl : (refs ks ++ [Value.ref De]).length = ks.length + 1 := by simp [refs]
        obtain ⟨o1, o2, o3, o4, o5, o6, o7, o8, o9, oa, ob, oc, oS⟩ := AQ
        refine execs_midS (by k_asm) S Sd U IT TL AM h1 h2 h3 h4 h5 t1 t2 t3 t4 t5 R items ks.length ?_ ?_
        rotate_left
        case' _ =>
          (rename World => w9)
          revert w9
          repeat (rename_i zz9; revert zz9)
          repeat (first | revert g | revert hwy | revert w | revert ks | revert hks | revert hkl | revert hn8 | revert i | revert t | revert ts | revert io | revert i2 | revert pv | revert pk | revert un' | revert own2 | revert R | revert hR | revert h1 | revert h2 | revert h3 | revert h4 | revert h5 | revert t1 | revert t2 | revert t3 | revert t4 | revert t5 | revert S | revert Sd | revert U | revert IT | revert TL | revert AM | revert De | revert tE | revert t0 | revert items | revert rest | revert io0 | revert un0 | revert tn | revert an | revert en | revert mm | revert spot | revert kk | revert va | revert vb | revert ta | revert tad | revert tva | revert tvb | revert tj | revert tp | revert hp | revert td1 | revert td2 | revert tdn | revert D | revert oI | revert oC | revert v | revert j | revert k | revert x | revert e | revert oe | revert it | revert oit | revert oC | revert m₁ | revert nx | revert h | revert tk | revert ys | revert news | revert M | revert E' | revert I | revert C | revert m₂ | revert n | revert own | revert N9)
          skip -- @T
        rotate_left
        have hwy : ∀ x : Int, x.fmod 5 = 0 ∨ x.fmod 5 = 1 ∨ x.fmod 5 = 2 ∨ x.fmod 5 = 3 ∨ x.fmod 5 = 4 := fmod5
        rcases Nat.lt_or_ge spot ks.length with hlt | hge
        case' _ =>
          obtain ⟨kk, hk6, hkk, ham, hmk⟩ := am_at (D := _) hlt hks
          obtain ⟨td1, td2, tdn, hdue⟩ := tbl_inF F (by assumption) hk6
          have hne := tbl_ne hk6
          have hok := okp_tbl hk6
          have hsh := KR.short _ (List.mem_of_getElem? hmk)
          obtain ⟨va, vb, hvv⟩ : ∃ va vb, tbl kk = (va, vb) := ⟨_, _, rfl⟩
          rw [hvv] at hmk hdue hne hok hsh
          obtain ⟨okx, oky⟩ := hok
          obtain ⟨hla, hlb⟩ := hsh
          dsimp only at hmk hdue hne okx oky hla hlb
          obtain ⟨ta, tad, tva, tvb, tj, tp, hp, hx, hta, htd⟩ := KR.one _ _ _ hmk
          repeat ((fail_if_success (with_reducible show wpAny _ _ (exec (Stmt.If _ _ _ _) _) _ _ _)); (first | (k_unfold; (try dsimp only)) | walk1 | (dsimp only; walk1) | (leave1; walk_say "STEP leave1"; try dsimp only)))
          (rename Fr _ _ _ _ => lF)
          rcases fmod5 (Int.fdiv (cellF ‹List Int› (0 + (i : Int))) 6) with hw | hw | hw | hw | hw <;> rw [hw] at lF
          case' _ =>
            (rename World => w9)
            revert w9
            repeat (rename_i zz9; revert zz9)
            repeat (first | revert g | revert hwy | revert w | revert ks | revert hks | revert hkl | revert hn8 | revert i | revert t | revert ts | revert io | revert i2 | revert pv | revert pk | revert un' | revert own2 | revert R | revert hR | revert h1 | revert h2 | revert h3 | revert h4 | revert h5 | revert t1 | revert t2 | revert t3 | revert t4 | revert t5 | revert S | revert Sd | revert U | revert IT | revert TL | revert AM | revert De | revert tE | revert t0 | revert items | revert rest | revert io0 | revert un0 | revert tn | revert an | revert en | revert mm | revert spot | revert kk | revert va | revert vb | revert ta | revert tad | revert tva | revert tvb | revert tj | revert tp | revert hp | revert td1 | revert td2 | revert tdn | revert D | revert oI | revert oC | revert v | revert j | revert k | revert x | revert e | revert oe | revert it | revert oit | revert oC | revert m₁ | revert nx | revert h | revert tk | revert ys | revert news | revert M | revert E' | revert I | revert C | revert m₂ | revert n | revert own | revert N9)
            skip -- @A0
          rotate_left
          case' _ =>
            (rename World => w9)
            revert w9
            repeat (rename_i zz9; revert zz9)
            repeat (first | revert g | revert hwy | revert w | revert ks | revert hks | revert hkl | revert hn8 | revert i | revert t | revert ts | revert io | revert i2 | revert pv | revert pk | revert un' | revert own2 | revert R | revert hR | revert h1 | revert h2 | revert h3 | revert h4 | revert h5 | revert t1 | revert t2 | revert t3 | revert t4 | revert t5 | revert S | revert Sd | revert U | revert IT | revert TL | revert AM | revert De | revert tE | revert t0 | revert items | revert rest | revert io0 | revert un0 | revert tn | revert an | revert en | revert mm | revert spot | revert kk | revert va | revert vb | revert ta | revert tad | revert tva | revert tvb | revert tj | revert tp | revert hp | revert td1 | revert td2 | revert tdn | revert D | revert oI | revert oC | revert v | revert j | revert k | revert x | revert e | revert oe | revert it | revert oit | revert oC | revert m₁ | revert nx | revert h | revert tk | revert ys | revert news | revert M | revert E' | revert I | revert C | revert m₂ | revert n | revert own | revert N9)
            skip -- @A1
          rotate_left
          case' _ =>
            (rename World => w9)
            revert w9
            repeat (rename_i zz9; revert zz9)
            repeat (first | revert g | revert hwy | revert w | revert ks | revert hks | revert hkl | revert hn8 | revert i | revert t | revert ts | revert io | revert i2 | revert pv | revert pk | revert un' | revert own2 | revert R | revert hR | revert h1 | revert h2 | revert h3 | revert h4 | revert h5 | revert t1 | revert t2 | revert t3 | revert t4 | revert t5 | revert S | revert Sd | revert U | revert IT | revert TL | revert AM | revert De | revert tE | revert t0 | revert items | revert rest | revert io0 | revert un0 | revert tn | revert an | revert en | revert mm | revert spot | revert kk | revert va | revert vb | revert ta | revert tad | revert tva | revert tvb | revert tj | revert tp | revert hp | revert td1 | revert td2 | revert tdn | revert D | revert oI | revert oC | revert v | revert j | revert k | revert x | revert e | revert oe | revert it | revert oit | revert oC | revert m₁ | revert nx | revert h | revert tk | revert ys | revert news | revert M | revert E' | revert I | revert C | revert m₂ | revert n | revert own | revert N9)
            skip -- @A2
          rotate_left
          case' _ =>
            (rename World => w9)
            revert w9
            repeat (rename_i zz9; revert zz9)
            repeat (first | revert g | revert hwy | revert w | revert ks | revert hks | revert hkl | revert hn8 | revert i | revert t | revert ts | revert io | revert i2 | revert pv | revert pk | revert un' | revert own2 | revert R | revert hR | revert h1 | revert h2 | revert h3 | revert h4 | revert h5 | revert t1 | revert t2 | revert t3 | revert t4 | revert t5 | revert S | revert Sd | revert U | revert IT | revert TL | revert AM | revert De | revert tE | revert t0 | revert items | revert rest | revert io0 | revert un0 | revert tn | revert an | revert en | revert mm | revert spot | revert kk | revert va | revert vb | revert ta | revert tad | revert tva | revert tvb | revert tj | revert tp | revert hp | revert td1 | revert td2 | revert tdn | revert D | revert oI | revert oC | revert v | revert j | revert k | revert x | revert e | revert oe | revert it | revert oit | revert oC | revert m₁ | revert nx | revert h | revert tk | revert ys | revert news | revert M | revert E' | revert I | revert C | revert m₂ | revert n | revert own | revert N9)
            skip -- @A3
          rotate_left
          case' _ =>
            (rename World => w9)
            revert w9
            repeat (rename_i zz9; revert zz9)
            repeat (first | revert g | revert hwy | revert w | revert ks | revert hks | revert hkl | revert hn8 | revert i | revert t | revert ts | revert io | revert i2 | revert pv | revert pk | revert un' | revert own2 | revert R | revert hR | revert h1 | revert h2 | revert h3 | revert h4 | revert h5 | revert t1 | revert t2 | revert t3 | revert t4 | revert t5 | revert S | revert Sd | revert U | revert IT | revert TL | revert AM | revert De | revert tE | revert t0 | revert items | revert rest | revert io0 | revert un0 | revert tn | revert an | revert en | revert mm | revert spot | revert kk | revert va | revert vb | revert ta | revert tad | revert tva | revert tvb | revert tj | revert tp | revert hp | revert td1 | revert td2 | revert tdn | revert D | revert oI | revert oC | revert v | revert j | revert k | revert x | revert e | revert oe | revert it | revert oit | revert oC | revert m₁ | revert nx | revert h | revert tk | revert ys | revert news | revert M | revert E' | revert I | revert C | revert m₂ | revert n | revert own | revert N9)
            skip -- @A4
          rotate_left
        rotate_left 5
        case' _ =>
          obtain rfl : spot = ks.length := Nat.le_antisymm hsp hge
          have ham := am_endR (ks := ks) hEO
          have hdue := hEO
          obtain ⟨ta, tad, tva, tj, tp, hp, hx, hta, htd⟩ := KR.eof
          rw [hn9] at hx htd
          repeat ((fail_if_success (with_reducible show wpAny _ _ (exec (Stmt.If _ _ _ _) _) _ _ _)); (first | (k_unfold; (try dsimp only)) | walk1 | (dsimp only; walk1) | (leave1; walk_say "STEP leave1"; try dsimp only)))
          (rename Fr _ _ _ _ => lF)
          rcases fmod5 (Int.fdiv (cellF ‹List Int› (0 + (i : Int))) 6) with hw | hw | hw | hw | hw <;> rw [hw] at lF
          case' _ =>
            (rename World => w9)
            revert w9
            repeat (rename_i zz9; revert zz9)
            repeat (first | revert g | revert hwy | revert w | revert ks | revert hks | revert hkl | revert hn8 | revert i | revert t | revert ts | revert io | revert i2 | revert pv | revert pk | revert un' | revert own2 | revert R | revert hR | revert h1 | revert h2 | revert h3 | revert h4 | revert h5 | revert t1 | revert t2 | revert t3 | revert t4 | revert t5 | revert S | revert Sd | revert U | revert IT | revert TL | revert AM | revert De | revert tE | revert t0 | revert items | revert rest | revert io0 | revert un0 | revert tn | revert an | revert en | revert mm | revert spot | revert kk | revert va | revert vb | revert ta | revert tad | revert tva | revert tvb | revert tj | revert tp | revert hp | revert td1 | revert td2 | revert tdn | revert D | revert oI | revert oC | revert v | revert j | revert k | revert x | revert e | revert oe | revert it | revert oit | revert oC | revert m₁ | revert nx | revert h | revert tk | revert ys | revert news | revert M | revert E' | revert I | revert C | revert m₂ | revert n | revert own | revert N9)
            skip -- @B0
          rotate_left
          case' _ =>
            (rename World => w9)
            revert w9
            repeat (rename_i zz9; revert zz9)
            repeat (first | revert g | revert hwy | revert w | revert ks | revert hks | revert hkl | revert hn8 | revert i | revert t | revert ts | revert io | revert i2 | revert pv | revert pk | revert un' | revert own2 | revert R | revert hR | revert h1 | revert h2 | revert h3 | revert h4 | revert h5 | revert t1 | revert t2 | revert t3 | revert t4 | revert t5 | revert S | revert Sd | revert U | revert IT | revert TL | revert AM | revert De | revert tE | revert t0 | revert items | revert rest | revert io0 | revert un0 | revert tn | revert an | revert en | revert mm | revert spot | revert kk | revert va | revert vb | revert ta | revert tad | revert tva | revert tvb | revert tj | revert tp | revert hp | revert td1 | revert td2 | revert tdn | revert D | revert oI | revert oC | revert v | revert j | revert k | revert x | revert e | revert oe | revert it | revert oit | revert oC | revert m₁ | revert nx | revert h | revert tk | revert ys | revert news | revert M | revert E' | revert I | revert C | revert m₂ | revert n | revert own | revert N9)
            skip -- @B1
          rotate_left
          case' _ =>
            (rename World => w9)
            revert w9
            repeat (rename_i zz9; revert zz9)
            repeat (first | revert g | revert hwy | revert w | revert ks | revert hks | revert hkl | revert hn8 | revert i | revert t | revert ts | revert io | revert i2 | revert pv | revert pk | revert un' | revert own2 | revert R | revert hR | revert h1 | revert h2 | revert h3 | revert h4 | revert h5 | revert t1 | revert t2 | revert t3 | revert t4 | revert t5 | revert S | revert Sd | revert U | revert IT | revert TL | revert AM | revert De | revert tE | revert t0 | revert items | revert rest | revert io0 | revert un0 | revert tn | revert an | revert en | revert mm | revert spot | revert kk | revert va | revert vb | revert ta | revert tad | revert tva | revert tvb | revert tj | revert tp | revert hp | revert td1 | revert td2 | revert tdn | revert D | revert oI | revert oC | revert v | revert j | revert k | revert x | revert e | revert oe | revert it | revert oit | revert oC | revert m₁ | revert nx | revert h | revert tk | revert ys | revert news | revert M | revert E' | revert I | revert C | revert m₂ | revert n | revert own | revert N9)
            skip -- @B2
          rotate_left
          case' _ =>
            (rename World => w9)
            revert w9
            repeat (rename_i zz9; revert zz9)
            repeat (first | revert g | revert hwy | revert w | revert ks | revert hks | revert hkl | revert hn8 | revert i | revert t | revert ts | revert io | revert i2 | revert pv | revert pk | revert un' | revert own2 | revert R | revert hR | revert h1 | revert h2 | revert h3 | revert h4 | revert h5 | revert t1 | revert t2 | revert t3 | revert t4 | revert t5 | revert S | revert Sd | revert U | revert IT | revert TL | revert AM | revert De | revert tE | revert t0 | revert items | revert rest | revert io0 | revert un0 | revert tn | revert an | revert en | revert mm | revert spot | revert kk | revert va | revert vb | revert ta | revert tad | revert tva | revert tvb | revert tj | revert tp | revert hp | revert td1 | revert td2 | revert tdn | revert D | revert oI | revert oC | revert v | revert j | revert k | revert x | revert e | revert oe | revert it | revert oit | revert oC | revert m₁ | revert nx | revert h | revert tk | revert ys | revert news | revert M | revert E' | revert I | revert C | revert m₂ | revert n | revert own | revert N9)
            skip -- @B3
          rotate_left
          case' _ =>
            (rename World => w9)
            revert w9
            repeat (rename_i zz9; revert zz9)
            repeat (first | revert g | revert hwy | revert w | revert ks | revert hks | revert hkl | revert hn8 | revert i | revert t | revert ts | revert io | revert i2 | revert pv | revert pk | revert un' | revert own2 | revert R | revert hR | revert h1 | revert h2 | revert h3 | revert h4 | revert h5 | revert t1 | revert t2 | revert t3 | revert t4 | revert t5 | revert S | revert Sd | revert U | revert IT | revert TL | revert AM | revert De | revert tE | revert t0 | revert items | revert rest | revert io0 | revert un0 | revert tn | revert an | revert en | revert mm | revert spot | revert kk | revert va | revert vb | revert ta | revert tad | revert tva | revert tvb | revert tj | revert tp | revert hp | revert td1 | revert td2 | revert tdn | revert D | revert oI | revert oC | revert v | revert j | revert k | revert x | revert e | revert oe | revert it | revert oit | revert oC | revert m₁ | revert nx | revert h | revert tk | revert ys | revert news | revert M | revert E' | revert I | revert C | revert m₂ | revert n | revert own | revert N9)
            skip -- @B4
          rotate_left
      rotate_left 11
      case' _ =>
        (rename World => w9)
        revert w9
        repeat (rename_i zz9; revert zz9)
        repeat (first | revert g | revert hwy | revert w | revert ks | revert hks | revert hkl | revert hn8 | revert i | revert t | revert ts | revert io | revert i2 | revert pv | revert pk | revert un' | revert own2 | revert R | revert hR | revert h1 | revert h2 | revert h3 | revert h4 | revert h5 | revert t1 | revert t2 | revert t3 | revert t4 | revert t5 | revert S | revert Sd | revert U | revert IT | revert TL | revert AM | revert De | revert tE | revert t0 | revert items | revert rest | revert io0 | revert un0 | revert tn | revert an | revert en | revert mm | revert spot | revert kk | revert va | revert vb | revert ta | revert tad | revert tva | revert tvb | revert tj | revert tp | revert hp | revert td1 | revert td2 | revert tdn | revert D | revert oI | revert oC | revert v | revert j | revert k | revert x | revert e | revert oe | revert it | revert oit | revert oC | revert m₁ | revert nx | revert h | revert tk | revert ys | revert news | revert M | revert E' | revert I | revert C | revert m₂ | revert n | revert own | revert N9)
        skip -- @D
  exact hR9.pD
  exact hR9.pB0
  exact hR9.pB1
  exact hR9.pB2
  exact hR9.pB3
  exact hR9.pB4
  exact hR9.pT
  exact hR9.pA0
  exact hR9.pA1
  exact hR9.pA2
  exact hR9.pA3
  exact hR9.pA4
  exact hR9.pM2
  exact hR9.pM1


end Mine
end
section
theorem Mine.rst_pT : True := by (w_top off); first | (walk1; done) | trivial
set_option maxHeartbeats 100000000
open PySem PySem.W PyProof.Rows PySem.Calls
namespace Mine
local macro_rules | `(tactic| walk_at "eval Name") => `(tactic| (k_here; (fail_if_success k_inBlock); k_dflt (first | (refine' nameX_L ?F ?v ?_ ?a ?b ?d; (case b => kernel_rfl); (case d => kernel_rfl); (case F => k_asm); (case a => rfl); (case v => rfl); k_whole) | (refine' nameX_C ?N ?c ?m ?d ?_ ?a ?b ?e; (case b => kernel_rfl); (case e => kernel_rfl); (case a => rfl); (case N => k_asm); (case c => rfl); (case m => k_mem); (case d => k_asm); k_whole) | (refine' nameX_K ?F ?X ?T ?e ?_ ?a ?b ?d; (case b => kernel_rfl); (case d => kernel_rfl); (case F => k_asm); (case X => k_asm); (case T => k_asm); (case a => rfl); (case e => k_is); k_whole) | (refine' nameX_B ?F ?X ?T ?e ?v ?n ?_ ?a ?b ?d; (case b => kernel_rfl); (case d => kernel_rfl); (case F => k_asm); (case X => k_asm); (case T => k_asm); (case a => rfl); (case e => k_is); (case v => boot_fast); (case n => decide); k_whole))))
local macro_rules | `(tactic| walk_at "storeName") => `(tactic| (k_here; k_dflt (first | (refine' storeX_L ?F ?N ?_ ?a ?b; (case b => kernel_rfl); (case F => k_asm); (case N => k_asm); (case a => rfl); k_whole; intro h' F' N'; (try k_sweep)) | (refine' storeX_C ?F ?N ?c ?U ?d ?_ ?a ?b; (case b => kernel_rfl); (case a => rfl); (case F => k_asm); (case N => k_asm); (case c => rfl); (case U => k_updF); (case d => k_asm); k_whole; intro h' o' F' N' d'; (try dsimp only at N'); (try k_sweep)))))
local macro_rules | `(tactic| walk_at "spliced") => `(tactic| first | with_reducible refine args_cons ?_ (by with_unfolding_all rfl) | with_reducible refine args_nil ⟨Fr.keep (by assumption) _ _ (by assumption), ?_⟩ | (with_reducible refine args_nil ?_; try simp only [List.cons_append, List.nil_append]))
local macro_rules | `(tactic| k_mem) => `(tactic| assumption)
local macro_rules | `(tactic| k_all) => `(tactic| assumption)
local macro_rules | `(tactic| k_ne) => `(tactic| first | assumption | exact Ne.symm (by assumption))
local macro_rules | `(tactic| k_inst) => `(tactic| (refine' instAt_seq ?N ?h1 ?h2; (case N => k_asm); (case h1 => k_mem); (case h2 => k_mem)))
local macro_rules | `(tactic| walk_at "my_depth") => `(tactic| ((try simp only [depth_under_make, depth_under_kw, depth_in1, depth_deeper, depth_caller]); (try dsimp only [ktrTop]); omega))
local macro_rules | `(tactic| walk_at "my_units") => `(tactic| ((try simp only [units_under_make, units_in1, units_deeper, Around.mark_units, units_caller]); (try dsimp only [ktrTop]); omega))
local macro_rules | `(tactic| walk_at "my_enter") => `(tactic| (refine' code_def ?k1 ?k2 ?k3 ?k4 ?k5 ?kA ?kF ?kK ?k6 ?k7 ?k8 ?k9 ?kB ?_ ?c2 ?c3 ?c4 ?c5; (case kA => exact rfl); (case kF => exact rfl); (case kK => first | assumption | exact rfl); (case k1 => k_asm); (case k2 => k_asm); (case k3 => k_asm); (case k4 => k_asm); (case k5 => k_asm); (case k6 => k_is); (case k7 => k_is); (case k8 => ktr_room); (case k9 => exact BindsTo.of_eq rfl); (case c5 => decide); (case kB => exact locs rfl); (case c2 => exact rfl); (case c3 => exact rfl); (case c4 => exact rfl); k_whole; intro g' L' h' FG' F' N' B' X' T'; (try dsimp only); (try k_lift B'); (try k_fold)))

local macro_rules | `(tactic| walk_at "getAttr ref") => `(tactic| (k_here; (with_reducible show wpAny _ _ (getAttr (Value.ref _) (Str.ofString "type") _) _ _ _); k_dflt ((first | refine' type107_ct (cl := []) ?B ?F ?X ?T ?k ?d ?u ?N ?x ?y ?h ?_ | refine' type135_ct (cl := []) ?B ?F ?X ?T ?k ?d ?u ?N ?x ?y ?h ?_); (case B => k_asm); (case F => k_asm); (case X => k_asm); (case T => k_asm); (case k => first | assumption | rfl); (case d => walk_at "my_depth"); (case u => walk_at "my_units"); (case N => k_asm); (case x => k_mem); (case y => k_mem); (case h => first | assumption | rfl); intro h' tk' F' N')))
local macro_rules | `(tactic| walk_at "getAttr ref") => `(tactic| (k_here; (with_reducible show wpAny _ _ (getAttr (Value.ref _) (Str.ofString "value") _) _ _ _); k_dflt ((first | refine' value107_ct (cl := []) ?B ?F ?X ?T ?k ?d ?u ?N ?x ?y ?h ?_ | refine' value135_ct (cl := []) ?B ?F ?X ?T ?k ?d ?u ?N ?x ?y ?h ?_); (case B => k_asm); (case F => k_asm); (case X => k_asm); (case T => k_asm); (case k => first | assumption | rfl); (case d => walk_at "my_depth"); (case u => walk_at "my_units"); (case N => k_asm); (case x => k_mem); (case y => k_mem); (case h => first | assumption | rfl); intro h' tk' F' N')))
local macro_rules | `(tactic| walk_at "getAttr ref") => `(tactic| (k_here; (with_reducible show wpAny _ _ (getAttr (Value.ref _) (Str.ofString "pos") _) _ _ _); k_dflt (refine' tok_own ?F ?X ?I ?g ?h ?m ?hd ?a ?n ?l ?hh ?_; (case F => k_asm); (case X => k_asm); (case I => k_inst); (case g => k_is); (case h => k_is); (case m => k_is); (case hd => k_is); (case a => k_is); (case n => k_is); (case l => k_get); (case hh => k_handed); k_whole)))
local macro_rules | `(tactic| walk_at "ite") => `(tactic| (k_closed; first | (with_reducible refine my_iteT (by with_unfolding_all rfl) ?_) | (with_reducible refine my_iteF (by with_unfolding_all rfl) ?_)))

local macro_rules | `(tactic| walk_at "call ref") => `(tactic| (k_here; k_dflt ((show wpAny _ _ (call (Value.ref 107) [_, _, _]) _ _ _); (refine' token_ct (outer := []) ?B ?F ?X ?T ?k ?d ?u ?N ?_; (case B => k_asm); (case F => k_asm); (case X => k_asm); (case T => k_asm); (case k => first | assumption | rfl); (case d => first | ktr_room | walk_at "my_depth"); (case u => first | ktr_units | walk_at "my_units"); (case N => k_asm); intro x' xd' hp' tp' h' tk' F' N' n1 n2 n3)); (try dsimp only)))
local macro_rules | `(tactic| walk_at "call ref") => `(tactic| (k_here; k_dflt ((show wpAny _ _ (call (Value.ref 135) [_]) _ _ _); (refine' eof_ct (outer := []) ?B ?F ?X ?T ?k ?d ?u ?N ?_; (case B => k_asm); (case F => k_asm); (case X => k_asm); (case T => k_asm); (case k => first | assumption | rfl); (case d => first | ktr_room | walk_at "my_depth"); (case u => first | ktr_units | walk_at "my_units"); (case N => k_asm); intro x' xd' hp' te' tp' h' tk' F' N' n1 n2 n3)); (try dsimp only)))
local macro_rules | `(tactic| walk_at "call builtin:len") => `(tactic| (k_here; k_dflt (refine' len_N ?N ?m ?c ?d ?k ?s ?_; (case N => k_asm); (case m => k_mem); (case c => rfl); (case d => rfl); (case k => exact refs_size); (case s => omega))))
local macro_rules | `(tactic| walk_at "binaryOp Add ref ref") => `(tactic| (k_here; k_dflt (refine' add_N ?F ?N ?l ?b ?z ?_; (case F => k_asm); (case N => k_asm); (case l => k_mem); (case b => k_mem); (case z => (simp only [refs, List.length_map, List.length_cons, List.length_nil]; omega))); intro x' h' F' N' n1))
local macro_rules | `(tactic| walk_at "call builtin:iter") => `(tactic| (k_here; (with_reducible show wpAny _ _ (call (Value.builtin "iter") [Value.ref _]) _ _ _); k_dflt ((refine' iter_li ?F ?N ?p ?c ?d ?_; (case F => k_asm); (case N => k_asm); (case p => k_mem); (case c => rfl); (case d => rfl); intro I' h' o' F' N' l1 hi'; (try k_lt l1)))))
local macro_rules | `(tactic| walk_at "subscriptTail") => `(tactic| (k_here; (with_reducible show wpAny _ _ (subscriptTail _ _ (Value.ref _) (Value.int (Nat.cast _) _)) _ _ _); k_dflt (refine' item_N ?N ?m ?k ?x ?_ ?s; (case N => k_asm); (case m => k_mem); (case k => omega); (case x => assumption); (case s => with_unfolding_all rfl))))
local macro_rules | `(tactic| walk_at "subscriptTail Name Name ref int") => `(tactic| (k_here; (with_reducible show wpAny _ _ (subscriptTail _ _ (Value.ref _) (Value.int (Nat.cast _) _)) _ _ _); k_dflt (refine' item_N ?N ?m ?k ?x ?_ ?s; (case N => k_asm); (case m => k_mem); (case k => omega); (case x => assumption); (case s => with_unfolding_all rfl))))
local macro_rules | `(tactic| walk_at "subscriptTail") => `(tactic| (k_here; (with_reducible show wpAny _ _ (subscriptTail _ _ (Value.ref _) (Value.int 0 _)) _ _ _); k_dflt (refine' tup0 ?g ?_ ?s; (case g => first | exact Fr.keep (by k_asm) _ _ (by assumption) | exact news_get (by k_asm) (by assumption) | exact news_get (by k_asm) (by k_mem)); (case s => with_unfolding_all rfl))))
local macro_rules | `(tactic| walk_at "subscriptTail Name Constant ref int") => `(tactic| (k_here; (with_reducible show wpAny _ _ (subscriptTail _ _ (Value.ref _) (Value.int 0 _)) _ _ _); k_dflt (refine' tup0 ?g ?_ ?s; (case g => first | exact Fr.keep (by k_asm) _ _ (by assumption) | exact news_get (by k_asm) (by assumption) | exact news_get (by k_asm) (by k_mem)); (case s => with_unfolding_all rfl))))
local macro_rules | `(tactic| walk_at "subscriptTail Subscript Constant ref int") => `(tactic| (k_here; (with_reducible show wpAny _ _ (subscriptTail _ _ (Value.ref _) (Value.int 0 _)) _ _ _); k_dflt (refine' tup0 ?g ?_ ?s; (case g => first | exact Fr.keep (by k_asm) _ _ (by assumption) | exact news_get (by k_asm) (by assumption) | exact news_get (by k_asm) (by k_mem)); (case s => with_unfolding_all rfl))))
local macro_rules | `(tactic| walk_at "subscriptTail") => `(tactic| (k_here; (with_reducible show wpAny _ _ (subscriptTail _ _ (Value.ref _) (Value.int 1 _)) _ _ _); k_dflt (refine' tup1 ?g ?_ ?s; (case g => first | exact Fr.keep (by k_asm) _ _ (by assumption) | exact news_get (by k_asm) (by assumption) | exact news_get (by k_asm) (by k_mem)); (case s => with_unfolding_all rfl))))
local macro_rules | `(tactic| walk_at "subscriptTail Name Constant ref int") => `(tactic| (k_here; (with_reducible show wpAny _ _ (subscriptTail _ _ (Value.ref _) (Value.int 1 _)) _ _ _); k_dflt (refine' tup1 ?g ?_ ?s; (case g => first | exact Fr.keep (by k_asm) _ _ (by assumption) | exact news_get (by k_asm) (by assumption) | exact news_get (by k_asm) (by k_mem)); (case s => with_unfolding_all rfl))))
local macro_rules | `(tactic| walk_at "call ref") => `(tactic| (k_here; k_dflt ((show wpAny _ _ (call (Value.ref 174) [Value.ref _]) _ _ _); (refine' peek_ct (outer := []) ?B ?F ?X ?T ?k ?d ?u ?N ?i ?l ?a ?x ?o1 ?o2 ?o3 ?o4 ?o5 ?o6 ?o7 ?o8 ?o9 ?oa ?ob ?oc ?_; (case B => k_asm); (case F => k_asm); (case X => k_asm); (case T => k_asm); (case k => first | assumption | rfl); (case d => first | ktr_room | walk_at "my_depth"); (case u => first | ktr_units | walk_at "my_units"); (case N => k_asm); (case i => k_asm); (case l => k_mem); (case a => first | assumption | exact at_true (by assumption)); (case x => assumption); (case o1 => assumption); (case o2 => assumption); (case o3 => assumption); (case o4 => assumption); (case o5 => assumption); (case o6 => assumption); (case o7 => assumption); (case o8 => assumption); (case o9 => assumption); (case oa => assumption); (case ob => assumption); (case oc => assumption); intro io' h' tk' F' N' hi')); (try dsimp only)))
local macro_rules | `(tactic| walk_at "getAttr ref") => `(tactic| (k_here; (with_reducible show wpAny _ _ (getAttr (Value.ref _) (Str.ofString "type") _) _ _ _); k_dflt ((refine' type107_ct ?B ?F ?X ?T ?k ?d ?u ?N ?x ?y ?h ?_); (case B => k_asm); (case F => k_asm); (case X => k_asm); (case T => k_asm); (case k => first | assumption | rfl); (case d => first | ktr_room | walk_at "my_depth"); (case u => first | ktr_units | walk_at "my_units"); (case N => k_asm); (case x => k_mem); (case y => k_mem); (case h => first | assumption | rfl); intro h' tk' F' N')))
local macro_rules | `(tactic| walk_at "getAttr ref") => `(tactic| (k_here; (with_reducible show wpAny _ _ (getAttr (Value.ref _) (Str.ofString "type") _) _ _ _); k_dflt ((refine' type135_ct ?B ?F ?X ?T ?k ?d ?u ?N ?x ?y ?h ?_); (case B => k_asm); (case F => k_asm); (case X => k_asm); (case T => k_asm); (case k => first | assumption | rfl); (case d => first | ktr_room | walk_at "my_depth"); (case u => first | ktr_units | walk_at "my_units"); (case N => k_asm); (case x => k_mem); (case y => k_mem); (case h => first | assumption | rfl); intro h' tk' F' N')))
local macro_rules | `(tactic| walk_at "getAttr ref") => `(tactic| (k_here; (with_reducible show wpAny _ _ (getAttr (Value.ref _) (Str.ofString "value") _) _ _ _); k_dflt ((refine' value107_ct ?B ?F ?X ?T ?k ?d ?u ?N ?x ?y ?h ?_); (case B => k_asm); (case F => k_asm); (case X => k_asm); (case T => k_asm); (case k => first | assumption | rfl); (case d => first | ktr_room | walk_at "my_depth"); (case u => first | ktr_units | walk_at "my_units"); (case N => k_asm); (case x => k_mem); (case y => k_mem); (case h => first | assumption | rfl); intro h' tk' F' N')))
local macro_rules | `(tactic| walk_at "getAttr ref") => `(tactic| (k_here; (with_reducible show wpAny _ _ (getAttr (Value.ref _) (Str.ofString "value") _) _ _ _); k_dflt ((refine' value135_ct ?B ?F ?X ?T ?k ?d ?u ?N ?x ?y ?h ?_); (case B => k_asm); (case F => k_asm); (case X => k_asm); (case T => k_asm); (case k => first | assumption | rfl); (case d => first | ktr_room | walk_at "my_depth"); (case u => first | ktr_units | walk_at "my_units"); (case N => k_asm); (case x => k_mem); (case y => k_mem); (case h => first | assumption | rfl); intro h' tk' F' N')))

local macro_rules | `(tactic| walk_at "compareOp NotEq ref ref") => `(tactic| (k_here; k_dflt (refine' ne_tup3 ?N ?a ?b ?x ?y ?u ?_; (case N => k_asm); (case a => k_mem); (case b => k_mem); (case x => first | assumption | decide +kernel); (case y => first | assumption | decide +kernel); (case u => first | ktr_units | walk_at "my_units" | decide))))
local macro_rules | `(tactic| walk_at "compareOp NotEq ref ref") => `(tactic| (k_here; k_dflt (refine' ne_tup3N ?N ?a ?b ?x ?u ?_; (case N => k_asm); (case a => k_mem); (case b => k_mem); (case x => decide +kernel); (case u => first | ktr_units | walk_at "my_units" | decide))))
local macro_rules | `(tactic| walk_at "compareOp NotEq ref ref") => `(tactic| (k_here; k_dflt (refine' ne_pair ?N ?a ?b ?x ?y ?u ?_; (case N => k_asm); (case a => k_mem); (case b => first | exact news_get (by k_asm) (by k_mem) | exact Fr.keep (by k_asm) _ _ (by assumption) | exact news_get (by k_asm) (by assumption)); (case x => first | assumption | decide +kernel); (case y => first | assumption | decide +kernel); (case u => first | ktr_units | walk_at "my_units" | decide))))
local macro_rules | `(tactic| walk_at "compareOp NotEq ref ref") => `(tactic| (k_here; k_dflt (refine' ne_pairN ?N ?a ?b ?x ?u ?_; (case N => k_asm); (case a => k_mem); (case b => first | exact news_get (by k_asm) (by k_mem) | exact Fr.keep (by k_asm) _ _ (by assumption) | exact news_get (by k_asm) (by assumption)); (case x => decide +kernel); (case u => first | ktr_units | walk_at "my_units" | decide))))

local macro_rules | `(tactic| walk_at "call type:tuple") => `(tactic| (k_here; (with_reducible show wpAny _ _ (call (Value.type "tuple") [Value.ref _]) _ _ _); k_dflt ((refine' tup107_N ?h ?d ?f ?u ?F ?X ?N ?T ?_); (case h => rfl); (case d => walk_at "my_depth"); (case f => rfl); (case u => first | ktr_units | walk_at "my_units" | decide); (case F => k_asm); (case X => k_asm); (case N => k_asm); (case T => k_mem); intro y' h' tk' F' N' n1)))
local macro_rules | `(tactic| walk_at "call type:tuple") => `(tactic| (k_here; (with_reducible show wpAny _ _ (call (Value.type "tuple") [Value.ref _]) _ _ _); k_dflt ((refine' tup135_N ?h ?d ?f ?u ?F ?X ?N ?T ?_); (case h => rfl); (case d => walk_at "my_depth"); (case f => rfl); (case u => first | ktr_units | walk_at "my_units" | decide); (case F => k_asm); (case X => k_asm); (case N => k_asm); (case T => k_mem); intro y' h' tk' F' N' n1)))

local macro_rules | `(tactic| walk_at "subscriptTail") => `(tactic| (k_here; (with_reducible show wpAny _ _ (subscriptTail _ (PySem.Expr.Slice _ _ _ _) (Value.ref _) (Value.ref _)) _ _ _); k_dflt (refine' slice_N ?F ?N ?m ?k ?z ?_ ?s ?t; (case F => k_asm); (case N => k_asm); (case m => k_mem); (case k => assumption); (case z => assumption); (case s => with_unfolding_all rfl); (case t => (intro _; with_unfolding_all rfl))); intro D' h' F' N' l1))


theorem pT : parts.1.1 := by
  k_with_none
  conv => whnf
  k_fill
  unhygienic intros
  (rename MidS _ _ _ _ _ _ _ _ _ _ _ _ _ _ _ _ _ _ _ _ _ _ _ => hMid)
  obtain ⟨sp, ts9, io9, i9, pv9, pk9, un9, h9, tk9, m9, rfl, F9, N9, hli9, hat9, hsp9, e91, e92, e93⟩ := hMid
  rw [lawMap_eq e91 e92 e93] at F9
  have hsp8 : sp ≤ (ks.map tbl).length := by omega
  have hspA : sp ≤ (refs ks ++ [Value.ref De]).length := by omega
  have hAl : (refs ks ++ [Value.ref De]).length < 100 := by omega
  repeat ((fail_if_success (with_reducible show wpAny _ _ (eval (PySem.Expr.ListComp _ _ _ _) _) _ _ _)); (first | (k_unfold; (try dsimp only)) | walk1 | (dsimp only; walk1) | (leave1; walk_say "STEP leave1"; try dsimp only)))
  k_dflt (refine LCg.ListComp_U (cl := []) (F₀ := by k_asm) (by with_unfolding_all rfl) (by decide) (by rfl) (by decide) (by rfl) ?_)
  repeat ((fail_if_success (with_reducible show LCg.CompSrc _ _ _ _ _ _ _ _ _ _ _ _ _ _)); (first | (k_unfold; (try dsimp only)) | walk1 | (dsimp only; walk1) | (leave1; walk_say "STEP leave1"; try dsimp only)))
  have hts : (items.toList.take sp).toArray.size = sp := take_size KR hsp8
  refine LCg.CompSrc.ledger (ax := U) (its := (items.toList.take sp).toArray) rfl (by k_asm) (by k_asm) (by k_mem) (by rw [hts]; exact src_line (by omega)) (fun g => cr_inv2 (UsJ (ks.map tbl) _) (fun i ys news j => Or.inr ⟨_, j.mem _ (by k_mem), rfl, _, rfl⟩) ?_ ?_ _ 0 [] _ (Nat.zero_add _) UsJ.nil)
  · intro i ys news hi j v I oI C oC D m₂ h tk E' hv hns hm F N
    obtain ⟨ua, ub, uta, utd, utva, utvb, hum, rfl, huta⟩ := used_at KR hsp8 (hts ▸ hi) hv
    replace huta := j.mem _ (show (uta, tokO 107 utd (.str ua utva) (.str ub utvb)) ∈ _ from by k_mem)
    repeat' (first | (((try dsimp only); (with_reducible show ∃ (h' : Heap), _)); exact ⟨_, _, [(_, _)], rfl, by assumption, by assumption, one_off (by assumption), j.snoc hum⟩) | (first | (k_unfold; (try dsimp only)) | walk1 | (dsimp only; walk1) | (leave1; walk_say "STEP leave1"; try dsimp only)))
  · rw [hts]
    intro ys news j D h tk F N off
    have hAMn := j.mem _ (show (AM, _) ∈ _ from by k_mem)
    repeat ((fail_if_success (with_reducible show wpAny _ _ (compareOp CmpOp.NotEq _ _) _ _ _)); (first | (k_unfold; (try dsimp only)) | walk1 | (dsimp only; walk1) | (leave1; walk_say "STEP leave1"; try dsimp only)))
    k_dflt (refine' ne_used hks hsp9 ?F_t ?X_t ?N_t ?R_t ?D_t j ?sub_t ?u_t ?_; (case F_t => k_asm); (case X_t => k_asm); (case N_t => k_asm); (case R_t => k_mem); (case D_t => k_mem); (case sub_t => intro p hp; simp only [List.mem_cons]; simp [hp]); (case u_t => first | ktr_units | walk_at "my_units" | decide))
    repeat ((fail_if_success (with_reducible show InvPostN _ _ _ _ _ _ _ _ _)); (first | (k_unfold; (try dsimp only)) | walk1 | (dsimp only; walk1) | (leave1; walk_say "STEP leave1"; try dsimp only)))
    exact lj_end (R := R) j (by k_asm) (by k_asm) (fun p hp => by simp only [List.mem_cons]; simp [hp]) (by assumption) (by k_mem) (by k_mem) (by k_mem) (by k_mem) (fun p hp => by simp only [List.mem_cons]; simp [hp]) hRr hRo hat9 hsp9 (by with_unfolding_all rfl) (by with_unfolding_all rfl) (by with_unfolding_all rfl) rfl
end Mine
end
section
theorem Mine.rst_pA0 : True := by (w_top off); first | (walk1; done) | trivial
set_option maxHeartbeats 100000000
open PySem PySem.W PyProof.Rows PySem.Calls
namespace Mine
local macro_rules | `(tactic| walk_at "eval Name") => `(tactic| (k_here; (fail_if_success k_inBlock); k_dflt (first | (refine' nameX_L ?F ?v ?_ ?a ?b ?d; (case b => kernel_rfl); (case d => kernel_rfl); (case F => k_asm); (case a => rfl); (case v => rfl); k_whole) | (refine' nameX_C ?N ?c ?m ?d ?_ ?a ?b ?e; (case b => kernel_rfl); (case e => kernel_rfl); (case a => rfl); (case N => k_asm); (case c => rfl); (case m => k_mem); (case d => k_asm); k_whole) | (refine' nameX_K ?F ?X ?T ?e ?_ ?a ?b ?d; (case b => kernel_rfl); (case d => kernel_rfl); (case F => k_asm); (case X => k_asm); (case T => k_asm); (case a => rfl); (case e => k_is); k_whole) | (refine' nameX_B ?F ?X ?T ?e ?v ?n ?_ ?a ?b ?d; (case b => kernel_rfl); (case d => kernel_rfl); (case F => k_asm); (case X => k_asm); (case T => k_asm); (case a => rfl); (case e => k_is); (case v => boot_fast); (case n => decide); k_whole))))
local macro_rules | `(tactic| walk_at "storeName") => `(tactic| (k_here; k_dflt (first | (refine' storeX_L ?F ?N ?_ ?a ?b; (case b => kernel_rfl); (case F => k_asm); (case N => k_asm); (case a => rfl); k_whole; intro h' F' N'; (try k_sweep)) | (refine' storeX_C ?F ?N ?c ?U ?d ?_ ?a ?b; (case b => kernel_rfl); (case a => rfl); (case F => k_asm); (case N => k_asm); (case c => rfl); (case U => k_updF); (case d => k_asm); k_whole; intro h' o' F' N' d'; (try dsimp only at N'); (try k_sweep)))))
local macro_rules | `(tactic| walk_at "spliced") => `(tactic| first | with_reducible refine args_cons ?_ (by with_unfolding_all rfl) | with_reducible refine args_nil ⟨Fr.keep (by assumption) _ _ (by assumption), ?_⟩ | (with_reducible refine args_nil ?_; try simp only [List.cons_append, List.nil_append]))
local macro_rules | `(tactic| k_mem) => `(tactic| assumption)
local macro_rules | `(tactic| k_all) => `(tactic| assumption)
local macro_rules | `(tactic| k_ne) => `(tactic| first | assumption | exact Ne.symm (by assumption))
local macro_rules | `(tactic| k_inst) => `(tactic| (refine' instAt_seq ?N ?h1 ?h2; (case N => k_asm); (case h1 => k_mem); (case h2 => k_mem)))
local macro_rules | `(tactic| walk_at "my_depth") => `(tactic| ((try simp only [depth_under_make, depth_under_kw, depth_in1, depth_deeper, depth_caller]); (try dsimp only [ktrTop]); omega))
local macro_rules | `(tactic| walk_at "my_units") => `(tactic| ((try simp only [units_under_make, units_in1, units_deeper, Around.mark_units, units_caller]); (try dsimp only [ktrTop]); omega))
local macro_rules | `(tactic| walk_at "my_enter") => `(tactic| (refine' code_def ?k1 ?k2 ?k3 ?k4 ?k5 ?kA ?kF ?kK ?k6 ?k7 ?k8 ?k9 ?kB ?_ ?c2 ?c3 ?c4 ?c5; (case kA => exact rfl); (case kF => exact rfl); (case kK => first | assumption | exact rfl); (case k1 => k_asm); (case k2 => k_asm); (case k3 => k_asm); (case k4 => k_asm); (case k5 => k_asm); (case k6 => k_is); (case k7 => k_is); (case k8 => ktr_room); (case k9 => exact BindsTo.of_eq rfl); (case c5 => decide); (case kB => exact locs rfl); (case c2 => exact rfl); (case c3 => exact rfl); (case c4 => exact rfl); k_whole; intro g' L' h' FG' F' N' B' X' T'; (try dsimp only); (try k_lift B'); (try k_fold)))

local macro_rules | `(tactic| walk_at "getAttr ref") => `(tactic| (k_here; (with_reducible show wpAny _ _ (getAttr (Value.ref _) (Str.ofString "type") _) _ _ _); k_dflt ((first | refine' type107_ct (cl := []) ?B ?F ?X ?T ?k ?d ?u ?N ?x ?y ?h ?_ | refine' type135_ct (cl := []) ?B ?F ?X ?T ?k ?d ?u ?N ?x ?y ?h ?_); (case B => k_asm); (case F => k_asm); (case X => k_asm); (case T => k_asm); (case k => first | assumption | rfl); (case d => walk_at "my_depth"); (case u => walk_at "my_units"); (case N => k_asm); (case x => k_mem); (case y => k_mem); (case h => first | assumption | rfl); intro h' tk' F' N')))
local macro_rules | `(tactic| walk_at "getAttr ref") => `(tactic| (k_here; (with_reducible show wpAny _ _ (getAttr (Value.ref _) (Str.ofString "value") _) _ _ _); k_dflt ((first | refine' value107_ct (cl := []) ?B ?F ?X ?T ?k ?d ?u ?N ?x ?y ?h ?_ | refine' value135_ct (cl := []) ?B ?F ?X ?T ?k ?d ?u ?N ?x ?y ?h ?_); (case B => k_asm); (case F => k_asm); (case X => k_asm); (case T => k_asm); (case k => first | assumption | rfl); (case d => walk_at "my_depth"); (case u => walk_at "my_units"); (case N => k_asm); (case x => k_mem); (case y => k_mem); (case h => first | assumption | rfl); intro h' tk' F' N')))
local macro_rules | `(tactic| walk_at "getAttr ref") => `(tactic| (k_here; (with_reducible show wpAny _ _ (getAttr (Value.ref _) (Str.ofString "pos") _) _ _ _); k_dflt (refine' tok_own ?F ?X ?I ?g ?h ?m ?hd ?a ?n ?l ?hh ?_; (case F => k_asm); (case X => k_asm); (case I => k_inst); (case g => k_is); (case h => k_is); (case m => k_is); (case hd => k_is); (case a => k_is); (case n => k_is); (case l => k_get); (case hh => k_handed); k_whole)))
local macro_rules | `(tactic| walk_at "ite") => `(tactic| (k_closed; first | (with_reducible refine my_iteT (by with_unfolding_all rfl) ?_) | (with_reducible refine my_iteF (by with_unfolding_all rfl) ?_)))

local macro_rules | `(tactic| walk_at "call ref") => `(tactic| (k_here; k_dflt ((show wpAny _ _ (call (Value.ref 107) [_, _, _]) _ _ _); (refine' token_ct (outer := []) ?B ?F ?X ?T ?k ?d ?u ?N ?_; (case B => k_asm); (case F => k_asm); (case X => k_asm); (case T => k_asm); (case k => first | assumption | rfl); (case d => first | ktr_room | walk_at "my_depth"); (case u => first | ktr_units | walk_at "my_units"); (case N => k_asm); intro x' xd' hp' tp' h' tk' F' N' n1 n2 n3)); (try dsimp only)))
local macro_rules | `(tactic| walk_at "call ref") => `(tactic| (k_here; k_dflt ((show wpAny _ _ (call (Value.ref 135) [_]) _ _ _); (refine' eof_ct (outer := []) ?B ?F ?X ?T ?k ?d ?u ?N ?_; (case B => k_asm); (case F => k_asm); (case X => k_asm); (case T => k_asm); (case k => first | assumption | rfl); (case d => first | ktr_room | walk_at "my_depth"); (case u => first | ktr_units | walk_at "my_units"); (case N => k_asm); intro x' xd' hp' te' tp' h' tk' F' N' n1 n2 n3)); (try dsimp only)))
local macro_rules | `(tactic| walk_at "call builtin:len") => `(tactic| (k_here; k_dflt (refine' len_N ?N ?m ?c ?d ?k ?s ?_; (case N => k_asm); (case m => k_mem); (case c => rfl); (case d => rfl); (case k => exact refs_size); (case s => omega))))
local macro_rules | `(tactic| walk_at "binaryOp Add ref ref") => `(tactic| (k_here; k_dflt (refine' add_N ?F ?N ?l ?b ?z ?_; (case F => k_asm); (case N => k_asm); (case l => k_mem); (case b => k_mem); (case z => (simp only [refs, List.length_map, List.length_cons, List.length_nil]; omega))); intro x' h' F' N' n1))
local macro_rules | `(tactic| walk_at "call builtin:iter") => `(tactic| (k_here; (with_reducible show wpAny _ _ (call (Value.builtin "iter") [Value.ref _]) _ _ _); k_dflt ((refine' iter_li ?F ?N ?p ?c ?d ?_; (case F => k_asm); (case N => k_asm); (case p => k_mem); (case c => rfl); (case d => rfl); intro I' h' o' F' N' l1 hi'; (try k_lt l1)))))
local macro_rules | `(tactic| walk_at "subscriptTail") => `(tactic| (k_here; (with_reducible show wpAny _ _ (subscriptTail _ _ (Value.ref _) (Value.int (Nat.cast _) _)) _ _ _); k_dflt (refine' item_N ?N ?m ?k ?x ?_ ?s; (case N => k_asm); (case m => k_mem); (case k => omega); (case x => assumption); (case s => with_unfolding_all rfl))))
local macro_rules | `(tactic| walk_at "subscriptTail Name Name ref int") => `(tactic| (k_here; (with_reducible show wpAny _ _ (subscriptTail _ _ (Value.ref _) (Value.int (Nat.cast _) _)) _ _ _); k_dflt (refine' item_N ?N ?m ?k ?x ?_ ?s; (case N => k_asm); (case m => k_mem); (case k => omega); (case x => assumption); (case s => with_unfolding_all rfl))))
local macro_rules | `(tactic| walk_at "subscriptTail") => `(tactic| (k_here; (with_reducible show wpAny _ _ (subscriptTail _ _ (Value.ref _) (Value.int 0 _)) _ _ _); k_dflt (refine' tup0 ?g ?_ ?s; (case g => first | exact Fr.keep (by k_asm) _ _ (by assumption) | exact news_get (by k_asm) (by assumption) | exact news_get (by k_asm) (by k_mem)); (case s => with_unfolding_all rfl))))
local macro_rules | `(tactic| walk_at "subscriptTail Name Constant ref int") => `(tactic| (k_here; (with_reducible show wpAny _ _ (subscriptTail _ _ (Value.ref _) (Value.int 0 _)) _ _ _); k_dflt (refine' tup0 ?g ?_ ?s; (case g => first | exact Fr.keep (by k_asm) _ _ (by assumption) | exact news_get (by k_asm) (by assumption) | exact news_get (by k_asm) (by k_mem)); (case s => with_unfolding_all rfl))))
local macro_rules | `(tactic| walk_at "subscriptTail Subscript Constant ref int") => `(tactic| (k_here; (with_reducible show wpAny _ _ (subscriptTail _ _ (Value.ref _) (Value.int 0 _)) _ _ _); k_dflt (refine' tup0 ?g ?_ ?s; (case g => first | exact Fr.keep (by k_asm) _ _ (by assumption) | exact news_get (by k_asm) (by assumption) | exact news_get (by k_asm) (by k_mem)); (case s => with_unfolding_all rfl))))
local macro_rules | `(tactic| walk_at "subscriptTail") => `(tactic| (k_here; (with_reducible show wpAny _ _ (subscriptTail _ _ (Value.ref _) (Value.int 1 _)) _ _ _); k_dflt (refine' tup1 ?g ?_ ?s; (case g => first | exact Fr.keep (by k_asm) _ _ (by assumption) | exact news_get (by k_asm) (by assumption) | exact news_get (by k_asm) (by k_mem)); (case s => with_unfolding_all rfl))))
local macro_rules | `(tactic| walk_at "subscriptTail Name Constant ref int") => `(tactic| (k_here; (with_reducible show wpAny _ _ (subscriptTail _ _ (Value.ref _) (Value.int 1 _)) _ _ _); k_dflt (refine' tup1 ?g ?_ ?s; (case g => first | exact Fr.keep (by k_asm) _ _ (by assumption) | exact news_get (by k_asm) (by assumption) | exact news_get (by k_asm) (by k_mem)); (case s => with_unfolding_all rfl))))
local macro_rules | `(tactic| walk_at "call ref") => `(tactic| (k_here; k_dflt ((show wpAny _ _ (call (Value.ref 174) [Value.ref _]) _ _ _); (refine' peek_ct (outer := []) ?B ?F ?X ?T ?k ?d ?u ?N ?i ?l ?a ?x ?o1 ?o2 ?o3 ?o4 ?o5 ?o6 ?o7 ?o8 ?o9 ?oa ?ob ?oc ?_; (case B => k_asm); (case F => k_asm); (case X => k_asm); (case T => k_asm); (case k => first | assumption | rfl); (case d => first | ktr_room | walk_at "my_depth"); (case u => first | ktr_units | walk_at "my_units"); (case N => k_asm); (case i => k_asm); (case l => k_mem); (case a => first | assumption | exact at_true (by assumption)); (case x => assumption); (case o1 => assumption); (case o2 => assumption); (case o3 => assumption); (case o4 => assumption); (case o5 => assumption); (case o6 => assumption); (case o7 => assumption); (case o8 => assumption); (case o9 => assumption); (case oa => assumption); (case ob => assumption); (case oc => assumption); intro io' h' tk' F' N' hi')); (try dsimp only)))
local macro_rules | `(tactic| walk_at "getAttr ref") => `(tactic| (k_here; (with_reducible show wpAny _ _ (getAttr (Value.ref _) (Str.ofString "type") _) _ _ _); k_dflt ((refine' type107_ct ?B ?F ?X ?T ?k ?d ?u ?N ?x ?y ?h ?_); (case B => k_asm); (case F => k_asm); (case X => k_asm); (case T => k_asm); (case k => first | assumption | rfl); (case d => first | ktr_room | walk_at "my_depth"); (case u => first | ktr_units | walk_at "my_units"); (case N => k_asm); (case x => k_mem); (case y => k_mem); (case h => first | assumption | rfl); intro h' tk' F' N')))
local macro_rules | `(tactic| walk_at "getAttr ref") => `(tactic| (k_here; (with_reducible show wpAny _ _ (getAttr (Value.ref _) (Str.ofString "type") _) _ _ _); k_dflt ((refine' type135_ct ?B ?F ?X ?T ?k ?d ?u ?N ?x ?y ?h ?_); (case B => k_asm); (case F => k_asm); (case X => k_asm); (case T => k_asm); (case k => first | assumption | rfl); (case d => first | ktr_room | walk_at "my_depth"); (case u => first | ktr_units | walk_at "my_units"); (case N => k_asm); (case x => k_mem); (case y => k_mem); (case h => first | assumption | rfl); intro h' tk' F' N')))
local macro_rules | `(tactic| walk_at "getAttr ref") => `(tactic| (k_here; (with_reducible show wpAny _ _ (getAttr (Value.ref _) (Str.ofString "value") _) _ _ _); k_dflt ((refine' value107_ct ?B ?F ?X ?T ?k ?d ?u ?N ?x ?y ?h ?_); (case B => k_asm); (case F => k_asm); (case X => k_asm); (case T => k_asm); (case k => first | assumption | rfl); (case d => first | ktr_room | walk_at "my_depth"); (case u => first | ktr_units | walk_at "my_units"); (case N => k_asm); (case x => k_mem); (case y => k_mem); (case h => first | assumption | rfl); intro h' tk' F' N')))
local macro_rules | `(tactic| walk_at "getAttr ref") => `(tactic| (k_here; (with_reducible show wpAny _ _ (getAttr (Value.ref _) (Str.ofString "value") _) _ _ _); k_dflt ((refine' value135_ct ?B ?F ?X ?T ?k ?d ?u ?N ?x ?y ?h ?_); (case B => k_asm); (case F => k_asm); (case X => k_asm); (case T => k_asm); (case k => first | assumption | rfl); (case d => first | ktr_room | walk_at "my_depth"); (case u => first | ktr_units | walk_at "my_units"); (case N => k_asm); (case x => k_mem); (case y => k_mem); (case h => first | assumption | rfl); intro h' tk' F' N')))

local macro_rules | `(tactic| walk_at "compareOp NotEq ref ref") => `(tactic| (k_here; k_dflt (refine' ne_tup3 ?N ?a ?b ?x ?y ?u ?_; (case N => k_asm); (case a => k_mem); (case b => k_mem); (case x => first | assumption | decide +kernel); (case y => first | assumption | decide +kernel); (case u => first | ktr_units | walk_at "my_units" | decide))))
local macro_rules | `(tactic| walk_at "compareOp NotEq ref ref") => `(tactic| (k_here; k_dflt (refine' ne_tup3N ?N ?a ?b ?x ?u ?_; (case N => k_asm); (case a => k_mem); (case b => k_mem); (case x => decide +kernel); (case u => first | ktr_units | walk_at "my_units" | decide))))
local macro_rules | `(tactic| walk_at "compareOp NotEq ref ref") => `(tactic| (k_here; k_dflt (refine' ne_pair ?N ?a ?b ?x ?y ?u ?_; (case N => k_asm); (case a => k_mem); (case b => first | exact news_get (by k_asm) (by k_mem) | exact Fr.keep (by k_asm) _ _ (by assumption) | exact news_get (by k_asm) (by assumption)); (case x => first | assumption | decide +kernel); (case y => first | assumption | decide +kernel); (case u => first | ktr_units | walk_at "my_units" | decide))))
local macro_rules | `(tactic| walk_at "compareOp NotEq ref ref") => `(tactic| (k_here; k_dflt (refine' ne_pairN ?N ?a ?b ?x ?u ?_; (case N => k_asm); (case a => k_mem); (case b => first | exact news_get (by k_asm) (by k_mem) | exact Fr.keep (by k_asm) _ _ (by assumption) | exact news_get (by k_asm) (by assumption)); (case x => decide +kernel); (case u => first | ktr_units | walk_at "my_units" | decide))))

local macro_rules | `(tactic| walk_at "call type:tuple") => `(tactic| (k_here; (with_reducible show wpAny _ _ (call (Value.type "tuple") [Value.ref _]) _ _ _); k_dflt ((refine' tup107_N ?h ?d ?f ?u ?F ?X ?N ?T ?_); (case h => rfl); (case d => walk_at "my_depth"); (case f => rfl); (case u => first | ktr_units | walk_at "my_units" | decide); (case F => k_asm); (case X => k_asm); (case N => k_asm); (case T => k_mem); intro y' h' tk' F' N' n1)))
local macro_rules | `(tactic| walk_at "call type:tuple") => `(tactic| (k_here; (with_reducible show wpAny _ _ (call (Value.type "tuple") [Value.ref _]) _ _ _); k_dflt ((refine' tup135_N ?h ?d ?f ?u ?F ?X ?N ?T ?_); (case h => rfl); (case d => walk_at "my_depth"); (case f => rfl); (case u => first | ktr_units | walk_at "my_units" | decide); (case F => k_asm); (case X => k_asm); (case N => k_asm); (case T => k_mem); intro y' h' tk' F' N' n1)))

local macro_rules | `(tactic| walk_at "subscriptTail") => `(tactic| (k_here; (with_reducible show wpAny _ _ (subscriptTail _ (PySem.Expr.Slice _ _ _ _) (Value.ref _) (Value.ref _)) _ _ _); k_dflt (refine' slice_N ?F ?N ?m ?k ?z ?_ ?s ?t; (case F => k_asm); (case N => k_asm); (case m => k_mem); (case k => assumption); (case z => assumption); (case s => with_unfolding_all rfl); (case t => (intro _; with_unfolding_all rfl))); intro D' h' F' N' l1))


theorem pA0 : parts.1.2.1 := by
  k_with_none
  conv => whnf
  k_fill
  unhygienic intros
  repeat ((fail_if_success (with_reducible show wpAny _ _ (call (Value.ref 174) _) _ _ _)); (first | (k_unfold; (try dsimp only)) | walk1 | (dsimp only; walk1) | (leave1; walk_say "STEP leave1"; try dsimp only)))
  walk1
  repeat ((fail_if_success (with_reducible show wpAny _ _ (call (Value.ref 174) _) _ _ _)); (first | (k_unfold; (try dsimp only)) | walk1 | (dsimp only; walk1) | (leave1; walk_say "STEP leave1"; try dsimp only)))
  obtain ⟨R2, N2, hX2, hRR, q4, q7, q9⟩ := regroup [(_, _), (_, _)] (by k_asm) (by simp) (by assumption) o4 o7 o9
  replace hTL := hRR _ hTL
  replace hta := hRR _ hta
  replace htd := hRR _ htd
  skip
  repeat' (first | ((with_reducible show MidS _ _ _ _ _ _ _ _ _ _ _ _ _ _ _ _ _ _ _ _ _ _ _); exact mid_end (by k_asm) (by k_asm) (by assumption) (by k_mem) (by k_mem) (by k_mem) (by k_mem) (fun p hp => by simp only [List.mem_cons]; simp [hRR p hp]) (at_true hx) hsp (by with_unfolding_all rfl) (by with_unfolding_all rfl) (by with_unfolding_all rfl)) | (first | (k_unfold; (try dsimp only)) | walk1 | (dsimp only; walk1) | (leave1; walk_say "STEP leave1"; try dsimp only)))
end Mine
end
section
theorem Mine.rst_pA1 : True := by (w_top off); first | (walk1; done) | trivial
set_option maxHeartbeats 100000000
open PySem PySem.W PyProof.Rows PySem.Calls
namespace Mine
local macro_rules | `(tactic| walk_at "eval Name") => `(tactic| (k_here; (fail_if_success k_inBlock); k_dflt (first | (refine' nameX_L ?F ?v ?_ ?a ?b ?d; (case b => kernel_rfl); (case d => kernel_rfl); (case F => k_asm); (case a => rfl); (case v => rfl); k_whole) | (refine' nameX_C ?N ?c ?m ?d ?_ ?a ?b ?e; (case b => kernel_rfl); (case e => kernel_rfl); (case a => rfl); (case N => k_asm); (case c => rfl); (case m => k_mem); (case d => k_asm); k_whole) | (refine' nameX_K ?F ?X ?T ?e ?_ ?a ?b ?d; (case b => kernel_rfl); (case d => kernel_rfl); (case F => k_asm); (case X => k_asm); (case T => k_asm); (case a => rfl); (case e => k_is); k_whole) | (refine' nameX_B ?F ?X ?T ?e ?v ?n ?_ ?a ?b ?d; (case b => kernel_rfl); (case d => kernel_rfl); (case F => k_asm); (case X => k_asm); (case T => k_asm); (case a => rfl); (case e => k_is); (case v => boot_fast); (case n => decide); k_whole))))
local macro_rules | `(tactic| walk_at "storeName") => `(tactic| (k_here; k_dflt (first | (refine' storeX_L ?F ?N ?_ ?a ?b; (case b => kernel_rfl); (case F => k_asm); (case N => k_asm); (case a => rfl); k_whole; intro h' F' N'; (try k_sweep)) | (refine' storeX_C ?F ?N ?c ?U ?d ?_ ?a ?b; (case b => kernel_rfl); (case a => rfl); (case F => k_asm); (case N => k_asm); (case c => rfl); (case U => k_updF); (case d => k_asm); k_whole; intro h' o' F' N' d'; (try dsimp only at N'); (try k_sweep)))))
local macro_rules | `(tactic| walk_at "spliced") => `(tactic| first | with_reducible refine args_cons ?_ (by with_unfolding_all rfl) | with_reducible refine args_nil ⟨Fr.keep (by assumption) _ _ (by assumption), ?_⟩ | (with_reducible refine args_nil ?_; try simp only [List.cons_append, List.nil_append]))
local macro_rules | `(tactic| k_mem) => `(tactic| assumption)
local macro_rules | `(tactic| k_all) => `(tactic| assumption)
local macro_rules | `(tactic| k_ne) => `(tactic| first | assumption | exact Ne.symm (by assumption))
local macro_rules | `(tactic| k_inst) => `(tactic| (refine' instAt_seq ?N ?h1 ?h2; (case N => k_asm); (case h1 => k_mem); (case h2 => k_mem)))
local macro_rules | `(tactic| walk_at "my_depth") => `(tactic| ((try simp only [depth_under_make, depth_under_kw, depth_in1, depth_deeper, depth_caller]); (try dsimp only [ktrTop]); omega))
local macro_rules | `(tactic| walk_at "my_units") => `(tactic| ((try simp only [units_under_make, units_in1, units_deeper, Around.mark_units, units_caller]); (try dsimp only [ktrTop]); omega))
local macro_rules | `(tactic| walk_at "my_enter") => `(tactic| (refine' code_def ?k1 ?k2 ?k3 ?k4 ?k5 ?kA ?kF ?kK ?k6 ?k7 ?k8 ?k9 ?kB ?_ ?c2 ?c3 ?c4 ?c5; (case kA => exact rfl); (case kF => exact rfl); (case kK => first | assumption | exact rfl); (case k1 => k_asm); (case k2 => k_asm); (case k3 => k_asm); (case k4 => k_asm); (case k5 => k_asm); (case k6 => k_is); (case k7 => k_is); (case k8 => ktr_room); (case k9 => exact BindsTo.of_eq rfl); (case c5 => decide); (case kB => exact locs rfl); (case c2 => exact rfl); (case c3 => exact rfl); (case c4 => exact rfl); k_whole; intro g' L' h' FG' F' N' B' X' T'; (try dsimp only); (try k_lift B'); (try k_fold)))

local macro_rules | `(tactic| walk_at "getAttr ref") => `(tactic| (k_here; (with_reducible show wpAny _ _ (getAttr (Value.ref _) (Str.ofString "type") _) _ _ _); k_dflt ((first | refine' type107_ct (cl := []) ?B ?F ?X ?T ?k ?d ?u ?N ?x ?y ?h ?_ | refine' type135_ct (cl := []) ?B ?F ?X ?T ?k ?d ?u ?N ?x ?y ?h ?_); (case B => k_asm); (case F => k_asm); (case X => k_asm); (case T => k_asm); (case k => first | assumption | rfl); (case d => walk_at "my_depth"); (case u => walk_at "my_units"); (case N => k_asm); (case x => k_mem); (case y => k_mem); (case h => first | assumption | rfl); intro h' tk' F' N')))
local macro_rules | `(tactic| walk_at "getAttr ref") => `(tactic| (k_here; (with_reducible show wpAny _ _ (getAttr (Value.ref _) (Str.ofString "value") _) _ _ _); k_dflt ((first | refine' value107_ct (cl := []) ?B ?F ?X ?T ?k ?d ?u ?N ?x ?y ?h ?_ | refine' value135_ct (cl := []) ?B ?F ?X ?T ?k ?d ?u ?N ?x ?y ?h ?_); (case B => k_asm); (case F => k_asm); (case X => k_asm); (case T => k_asm); (case k => first | assumption | rfl); (case d => walk_at "my_depth"); (case u => walk_at "my_units"); (case N => k_asm); (case x => k_mem); (case y => k_mem); (case h => first | assumption | rfl); intro h' tk' F' N')))
local macro_rules | `(tactic| walk_at "getAttr ref") => `(tactic| (k_here; (with_reducible show wpAny _ _ (getAttr (Value.ref _) (Str.ofString "pos") _) _ _ _); k_dflt (refine' tok_own ?F ?X ?I ?g ?h ?m ?hd ?a ?n ?l ?hh ?_; (case F => k_asm); (case X => k_asm); (case I => k_inst); (case g => k_is); (case h => k_is); (case m => k_is); (case hd => k_is); (case a => k_is); (case n => k_is); (case l => k_get); (case hh => k_handed); k_whole)))
local macro_rules | `(tactic| walk_at "ite") => `(tactic| (k_closed; first | (with_reducible refine my_iteT (by with_unfolding_all rfl) ?_) | (with_reducible refine my_iteF (by with_unfolding_all rfl) ?_)))

local macro_rules | `(tactic| walk_at "call ref") => `(tactic| (k_here; k_dflt ((show wpAny _ _ (call (Value.ref 107) [_, _, _]) _ _ _); (refine' token_ct (outer := []) ?B ?F ?X ?T ?k ?d ?u ?N ?_; (case B => k_asm); (case F => k_asm); (case X => k_asm); (case T => k_asm); (case k => first | assumption | rfl); (case d => first | ktr_room | walk_at "my_depth"); (case u => first | ktr_units | walk_at "my_units"); (case N => k_asm); intro x' xd' hp' tp' h' tk' F' N' n1 n2 n3)); (try dsimp only)))
local macro_rules | `(tactic| walk_at "call ref") => `(tactic| (k_here; k_dflt ((show wpAny _ _ (call (Value.ref 135) [_]) _ _ _); (refine' eof_ct (outer := []) ?B ?F ?X ?T ?k ?d ?u ?N ?_; (case B => k_asm); (case F => k_asm); (case X => k_asm); (case T => k_asm); (case k => first | assumption | rfl); (case d => first | ktr_room | walk_at "my_depth"); (case u => first | ktr_units | walk_at "my_units"); (case N => k_asm); intro x' xd' hp' te' tp' h' tk' F' N' n1 n2 n3)); (try dsimp only)))
local macro_rules | `(tactic| walk_at "call builtin:len") => `(tactic| (k_here; k_dflt (refine' len_N ?N ?m ?c ?d ?k ?s ?_; (case N => k_asm); (case m => k_mem); (case c => rfl); (case d => rfl); (case k => exact refs_size); (case s => omega))))
local macro_rules | `(tactic| walk_at "binaryOp Add ref ref") => `(tactic| (k_here; k_dflt (refine' add_N ?F ?N ?l ?b ?z ?_; (case F => k_asm); (case N => k_asm); (case l => k_mem); (case b => k_mem); (case z => (simp only [refs, List.length_map, List.length_cons, List.length_nil]; omega))); intro x' h' F' N' n1))
local macro_rules | `(tactic| walk_at "call builtin:iter") => `(tactic| (k_here; (with_reducible show wpAny _ _ (call (Value.builtin "iter") [Value.ref _]) _ _ _); k_dflt ((refine' iter_li ?F ?N ?p ?c ?d ?_; (case F => k_asm); (case N => k_asm); (case p => k_mem); (case c => rfl); (case d => rfl); intro I' h' o' F' N' l1 hi'; (try k_lt l1)))))
local macro_rules | `(tactic| walk_at "subscriptTail") => `(tactic| (k_here; (with_reducible show wpAny _ _ (subscriptTail _ _ (Value.ref _) (Value.int (Nat.cast _) _)) _ _ _); k_dflt (refine' item_N ?N ?m ?k ?x ?_ ?s; (case N => k_asm); (case m => k_mem); (case k => omega); (case x => assumption); (case s => with_unfolding_all rfl))))
local macro_rules | `(tactic| walk_at "subscriptTail Name Name ref int") => `(tactic| (k_here; (with_reducible show wpAny _ _ (subscriptTail _ _ (Value.ref _) (Value.int (Nat.cast _) _)) _ _ _); k_dflt (refine' item_N ?N ?m ?k ?x ?_ ?s; (case N => k_asm); (case m => k_mem); (case k => omega); (case x => assumption); (case s => with_unfolding_all rfl))))
local macro_rules | `(tactic| walk_at "subscriptTail") => `(tactic| (k_here; (with_reducible show wpAny _ _ (subscriptTail _ _ (Value.ref _) (Value.int 0 _)) _ _ _); k_dflt (refine' tup0 ?g ?_ ?s; (case g => first | exact Fr.keep (by k_asm) _ _ (by assumption) | exact news_get (by k_asm) (by assumption) | exact news_get (by k_asm) (by k_mem)); (case s => with_unfolding_all rfl))))
local macro_rules | `(tactic| walk_at "subscriptTail Name Constant ref int") => `(tactic| (k_here; (with_reducible show wpAny _ _ (subscriptTail _ _ (Value.ref _) (Value.int 0 _)) _ _ _); k_dflt (refine' tup0 ?g ?_ ?s; (case g => first | exact Fr.keep (by k_asm) _ _ (by assumption) | exact news_get (by k_asm) (by assumption) | exact news_get (by k_asm) (by k_mem)); (case s => with_unfolding_all rfl))))
local macro_rules | `(tactic| walk_at "subscriptTail Subscript Constant ref int") => `(tactic| (k_here; (with_reducible show wpAny _ _ (subscriptTail _ _ (Value.ref _) (Value.int 0 _)) _ _ _); k_dflt (refine' tup0 ?g ?_ ?s; (case g => first | exact Fr.keep (by k_asm) _ _ (by assumption) | exact news_get (by k_asm) (by assumption) | exact news_get (by k_asm) (by k_mem)); (case s => with_unfolding_all rfl))))
local macro_rules | `(tactic| walk_at "subscriptTail") => `(tactic| (k_here; (with_reducible show wpAny _ _ (subscriptTail _ _ (Value.ref _) (Value.int 1 _)) _ _ _); k_dflt (refine' tup1 ?g ?_ ?s; (case g => first | exact Fr.keep (by k_asm) _ _ (by assumption) | exact news_get (by k_asm) (by assumption) | exact news_get (by k_asm) (by k_mem)); (case s => with_unfolding_all rfl))))
local macro_rules | `(tactic| walk_at "subscriptTail Name Constant ref int") => `(tactic| (k_here; (with_reducible show wpAny _ _ (subscriptTail _ _ (Value.ref _) (Value.int 1 _)) _ _ _); k_dflt (refine' tup1 ?g ?_ ?s; (case g => first | exact Fr.keep (by k_asm) _ _ (by assumption) | exact news_get (by k_asm) (by assumption) | exact news_get (by k_asm) (by k_mem)); (case s => with_unfolding_all rfl))))
local macro_rules | `(tactic| walk_at "call ref") => `(tactic| (k_here; k_dflt ((show wpAny _ _ (call (Value.ref 174) [Value.ref _]) _ _ _); (refine' peek_ct (outer := []) ?B ?F ?X ?T ?k ?d ?u ?N ?i ?l ?a ?x ?o1 ?o2 ?o3 ?o4 ?o5 ?o6 ?o7 ?o8 ?o9 ?oa ?ob ?oc ?_; (case B => k_asm); (case F => k_asm); (case X => k_asm); (case T => k_asm); (case k => first | assumption | rfl); (case d => first | ktr_room | walk_at "my_depth"); (case u => first | ktr_units | walk_at "my_units"); (case N => k_asm); (case i => k_asm); (case l => k_mem); (case a => first | assumption | exact at_true (by assumption)); (case x => assumption); (case o1 => assumption); (case o2 => assumption); (case o3 => assumption); (case o4 => assumption); (case o5 => assumption); (case o6 => assumption); (case o7 => assumption); (case o8 => assumption); (case o9 => assumption); (case oa => assumption); (case ob => assumption); (case oc => assumption); intro io' h' tk' F' N' hi')); (try dsimp only)))
local macro_rules | `(tactic| walk_at "getAttr ref") => `(tactic| (k_here; (with_reducible show wpAny _ _ (getAttr (Value.ref _) (Str.ofString "type") _) _ _ _); k_dflt ((refine' type107_ct ?B ?F ?X ?T ?k ?d ?u ?N ?x ?y ?h ?_); (case B => k_asm); (case F => k_asm); (case X => k_asm); (case T => k_asm); (case k => first | assumption | rfl); (case d => first | ktr_room | walk_at "my_depth"); (case u => first | ktr_units | walk_at "my_units"); (case N => k_asm); (case x => k_mem); (case y => k_mem); (case h => first | assumption | rfl); intro h' tk' F' N')))
local macro_rules | `(tactic| walk_at "getAttr ref") => `(tactic| (k_here; (with_reducible show wpAny _ _ (getAttr (Value.ref _) (Str.ofString "type") _) _ _ _); k_dflt ((refine' type135_ct ?B ?F ?X ?T ?k ?d ?u ?N ?x ?y ?h ?_); (case B => k_asm); (case F => k_asm); (case X => k_asm); (case T => k_asm); (case k => first | assumption | rfl); (case d => first | ktr_room | walk_at "my_depth"); (case u => first | ktr_units | walk_at "my_units"); (case N => k_asm); (case x => k_mem); (case y => k_mem); (case h => first | assumption | rfl); intro h' tk' F' N')))
local macro_rules | `(tactic| walk_at "getAttr ref") => `(tactic| (k_here; (with_reducible show wpAny _ _ (getAttr (Value.ref _) (Str.ofString "value") _) _ _ _); k_dflt ((refine' value107_ct ?B ?F ?X ?T ?k ?d ?u ?N ?x ?y ?h ?_); (case B => k_asm); (case F => k_asm); (case X => k_asm); (case T => k_asm); (case k => first | assumption | rfl); (case d => first | ktr_room | walk_at "my_depth"); (case u => first | ktr_units | walk_at "my_units"); (case N => k_asm); (case x => k_mem); (case y => k_mem); (case h => first | assumption | rfl); intro h' tk' F' N')))
local macro_rules | `(tactic| walk_at "getAttr ref") => `(tactic| (k_here; (with_reducible show wpAny _ _ (getAttr (Value.ref _) (Str.ofString "value") _) _ _ _); k_dflt ((refine' value135_ct ?B ?F ?X ?T ?k ?d ?u ?N ?x ?y ?h ?_); (case B => k_asm); (case F => k_asm); (case X => k_asm); (case T => k_asm); (case k => first | assumption | rfl); (case d => first | ktr_room | walk_at "my_depth"); (case u => first | ktr_units | walk_at "my_units"); (case N => k_asm); (case x => k_mem); (case y => k_mem); (case h => first | assumption | rfl); intro h' tk' F' N')))

local macro_rules | `(tactic| walk_at "compareOp NotEq ref ref") => `(tactic| (k_here; k_dflt (refine' ne_tup3 ?N ?a ?b ?x ?y ?u ?_; (case N => k_asm); (case a => k_mem); (case b => k_mem); (case x => first | assumption | decide +kernel); (case y => first | assumption | decide +kernel); (case u => first | ktr_units | walk_at "my_units" | decide))))
local macro_rules | `(tactic| walk_at "compareOp NotEq ref ref") => `(tactic| (k_here; k_dflt (refine' ne_tup3N ?N ?a ?b ?x ?u ?_; (case N => k_asm); (case a => k_mem); (case b => k_mem); (case x => decide +kernel); (case u => first | ktr_units | walk_at "my_units" | decide))))
local macro_rules | `(tactic| walk_at "compareOp NotEq ref ref") => `(tactic| (k_here; k_dflt (refine' ne_pair ?N ?a ?b ?x ?y ?u ?_; (case N => k_asm); (case a => k_mem); (case b => first | exact news_get (by k_asm) (by k_mem) | exact Fr.keep (by k_asm) _ _ (by assumption) | exact news_get (by k_asm) (by assumption)); (case x => first | assumption | decide +kernel); (case y => first | assumption | decide +kernel); (case u => first | ktr_units | walk_at "my_units" | decide))))
local macro_rules | `(tactic| walk_at "compareOp NotEq ref ref") => `(tactic| (k_here; k_dflt (refine' ne_pairN ?N ?a ?b ?x ?u ?_; (case N => k_asm); (case a => k_mem); (case b => first | exact news_get (by k_asm) (by k_mem) | exact Fr.keep (by k_asm) _ _ (by assumption) | exact news_get (by k_asm) (by assumption)); (case x => decide +kernel); (case u => first | ktr_units | walk_at "my_units" | decide))))

local macro_rules | `(tactic| walk_at "call type:tuple") => `(tactic| (k_here; (with_reducible show wpAny _ _ (call (Value.type "tuple") [Value.ref _]) _ _ _); k_dflt ((refine' tup107_N ?h ?d ?f ?u ?F ?X ?N ?T ?_); (case h => rfl); (case d => walk_at "my_depth"); (case f => rfl); (case u => first | ktr_units | walk_at "my_units" | decide); (case F => k_asm); (case X => k_asm); (case N => k_asm); (case T => k_mem); intro y' h' tk' F' N' n1)))
local macro_rules | `(tactic| walk_at "call type:tuple") => `(tactic| (k_here; (with_reducible show wpAny _ _ (call (Value.type "tuple") [Value.ref _]) _ _ _); k_dflt ((refine' tup135_N ?h ?d ?f ?u ?F ?X ?N ?T ?_); (case h => rfl); (case d => walk_at "my_depth"); (case f => rfl); (case u => first | ktr_units | walk_at "my_units" | decide); (case F => k_asm); (case X => k_asm); (case N => k_asm); (case T => k_mem); intro y' h' tk' F' N' n1)))

local macro_rules | `(tactic| walk_at "subscriptTail") => `(tactic| (k_here; (with_reducible show wpAny _ _ (subscriptTail _ (PySem.Expr.Slice _ _ _ _) (Value.ref _) (Value.ref _)) _ _ _); k_dflt (refine' slice_N ?F ?N ?m ?k ?z ?_ ?s ?t; (case F => k_asm); (case N => k_asm); (case m => k_mem); (case k => assumption); (case z => assumption); (case s => with_unfolding_all rfl); (case t => (intro _; with_unfolding_all rfl))); intro D' h' F' N' l1))

local macro_rules | `(tactic| walk_at "compareOp NotEq ref ref") => `(tactic| (k_here; k_dflt (refine' ne_mark ?N ?a ?c ?b ?d ?x ?y ?u ?_; (case N => k_asm); (case a => k_mem); (case c => k_mem); (case b => k_mem); (case d => first | exact news_get (by k_asm) (by k_mem) | exact Fr.keep (by k_asm) _ _ (by assumption) | exact news_get (by k_asm) (by assumption)); (case x => assumption); (case y => assumption); (case u => first | ktr_units | walk_at "my_units" | decide))))

theorem pA1 : parts.1.2.2.1 := by
  k_with_none
  conv => whnf
  k_fill
  unhygienic intros
  have hus2 : (items.toList.take spot).toArray.size ≤ 100 := by
    have := take_size KR (show spot ≤ (ks.map tbl).length by omega)
    omega
  repeat' (first | (exfalso; rename_i hz; with_reducible first | exact bne_absurd hz (by assumption) | exact beq_absurd hz (by assumption) | exact and_absurd hz (by assumption)) | ((fail_if_success (with_reducible show wpAny _ _ (call (Value.ref 223) _) _ _ _)); (first | (k_unfold; (try dsimp only)) | walk1 | (dsimp only; walk1) | (leave1; walk_say "STEP leave1"; try dsimp only))))
  obtain ⟨R2, N2, hX2, hRR, q4, q7, q9⟩ := regroup [(_, _)] (by k_asm) (by simp) hli o4 o7 o9
  simp only [List.forall_mem_cons, List.not_mem_nil, false_implies, implies_true, and_true] at hX2
  replace hTL := hRR _ hTL
  replace hta := hRR _ hta
  replace htd := hRR _ htd
  have x1 := hX2
  (k_here; k_dflt ((show wpAny _ _ (call (Value.ref 223) [Value.ref _, _]) _ _ _); (refine' taken1_ct ?B_taken1_ct ?XB_taken1_ct ?TB_taken1_ct ?F_taken1_ct ?X_taken1_ct ?T_taken1_ct ?k_taken1_ct ?d_taken1_ct ?u_taken1_ct ?N_taken1_ct ?i_taken1_ct ?l_taken1_ct ?a_taken1_ct ?x_taken1_ct ?s_taken1_ct ?ta_taken1_ct ?td_taken1_ct ?la_taken1_ct ?lb_taken1_ct ?j0_taken1_ct ?j1_taken1_ct ?o1_taken1_ct ?o2_taken1_ct ?o3_taken1_ct ?o4_taken1_ct ?o5_taken1_ct ?o6_taken1_ct ?o7_taken1_ct ?o8_taken1_ct ?o9_taken1_ct ?oa_taken1_ct ?ob_taken1_ct ?oc_taken1_ct ?_; (case B_taken1_ct => k_asm); (case F_taken1_ct => k_asm); (case X_taken1_ct => k_asm); (case T_taken1_ct => k_asm); (case k_taken1_ct => first | assumption | rfl); (case d_taken1_ct => first | ktr_room | walk_at "my_depth"); (case u_taken1_ct => first | ktr_units | walk_at "my_units"); (case N_taken1_ct => k_asm); (case XB_taken1_ct => k_asm); (case TB_taken1_ct => k_asm); (case i_taken1_ct => k_asm); (case l_taken1_ct => k_mem); (case a_taken1_ct => assumption); (case x_taken1_ct => assumption); (case s_taken1_ct => assumption); (case ta_taken1_ct => assumption); (case td_taken1_ct => assumption); (case la_taken1_ct => assumption); (case lb_taken1_ct => assumption); (case j0_taken1_ct => omega); (case j1_taken1_ct => omega); (all_goals (try assumption)); intro io' pv' y' y2' tt' h' tk' F' N' hi')); (try dsimp only))
  repeat' (first | (exfalso; rename_i hz; with_reducible first | exact bne_absurd hz (by assumption) | exact beq_absurd hz (by assumption) | exact and_absurd hz (by assumption)) | ((with_reducible show MidS _ _ _ _ _ _ _ _ _ _ _ _ _ _ _ _ _ _ _ _ _ _ _); exact mid_end_push hx (by k_asm) (by k_asm) (by assumption) (by k_mem) (by k_mem) (by k_mem) (by k_mem) (fun p hp => by simp only [List.mem_cons]; simp [hRR p hp]) at_false (by omega) (by with_unfolding_all rfl) (by with_unfolding_all rfl) (by with_unfolding_all rfl)) | (first | (k_unfold; (try dsimp only)) | walk1 | (dsimp only; walk1) | (leave1; walk_say "STEP leave1"; try dsimp only)))
end Mine
end
section
theorem Mine.rst_pA2 : True := by (w_top off); first | (walk1; done) | trivial
set_option maxHeartbeats 100000000
open PySem PySem.W PyProof.Rows PySem.Calls
namespace Mine
local macro_rules | `(tactic| walk_at "eval Name") => `(tactic| (k_here; (fail_if_success k_inBlock); k_dflt (first | (refine' nameX_L ?F ?v ?_ ?a ?b ?d; (case b => kernel_rfl); (case d => kernel_rfl); (case F => k_asm); (case a => rfl); (case v => rfl); k_whole) | (refine' nameX_C ?N ?c ?m ?d ?_ ?a ?b ?e; (case b => kernel_rfl); (case e => kernel_rfl); (case a => rfl); (case N => k_asm); (case c => rfl); (case m => k_mem); (case d => k_asm); k_whole) | (refine' nameX_K ?F ?X ?T ?e ?_ ?a ?b ?d; (case b => kernel_rfl); (case d => kernel_rfl); (case F => k_asm); (case X => k_asm); (case T => k_asm); (case a => rfl); (case e => k_is); k_whole) | (refine' nameX_B ?F ?X ?T ?e ?v ?n ?_ ?a ?b ?d; (case b => kernel_rfl); (case d => kernel_rfl); (case F => k_asm); (case X => k_asm); (case T => k_asm); (case a => rfl); (case e => k_is); (case v => boot_fast); (case n => decide); k_whole))))
local macro_rules | `(tactic| walk_at "storeName") => `(tactic| (k_here; k_dflt (first | (refine' storeX_L ?F ?N ?_ ?a ?b; (case b => kernel_rfl); (case F => k_asm); (case N => k_asm); (case a => rfl); k_whole; intro h' F' N'; (try k_sweep)) | (refine' storeX_C ?F ?N ?c ?U ?d ?_ ?a ?b; (case b => kernel_rfl); (case a => rfl); (case F => k_asm); (case N => k_asm); (case c => rfl); (case U => k_updF); (case d => k_asm); k_whole; intro h' o' F' N' d'; (try dsimp only at N'); (try k_sweep)))))
local macro_rules | `(tactic| walk_at "spliced") => `(tactic| first | with_reducible refine args_cons ?_ (by with_unfolding_all rfl) | with_reducible refine args_nil ⟨Fr.keep (by assumption) _ _ (by assumption), ?_⟩ | (with_reducible refine args_nil ?_; try simp only [List.cons_append, List.nil_append]))
local macro_rules | `(tactic| k_mem) => `(tactic| assumption)
local macro_rules | `(tactic| k_all) => `(tactic| assumption)
local macro_rules | `(tactic| k_ne) => `(tactic| first | assumption | exact Ne.symm (by assumption))
local macro_rules | `(tactic| k_inst) => `(tactic| (refine' instAt_seq ?N ?h1 ?h2; (case N => k_asm); (case h1 => k_mem); (case h2 => k_mem)))
local macro_rules | `(tactic| walk_at "my_depth") => `(tactic| ((try simp only [depth_under_make, depth_under_kw, depth_in1, depth_deeper, depth_caller]); (try dsimp only [ktrTop]); omega))
local macro_rules | `(tactic| walk_at "my_units") => `(tactic| ((try simp only [units_under_make, units_in1, units_deeper, Around.mark_units, units_caller]); (try dsimp only [ktrTop]); omega))
local macro_rules | `(tactic| walk_at "my_enter") => `(tactic| (refine' code_def ?k1 ?k2 ?k3 ?k4 ?k5 ?kA ?kF ?kK ?k6 ?k7 ?k8 ?k9 ?kB ?_ ?c2 ?c3 ?c4 ?c5; (case kA => exact rfl); (case kF => exact rfl); (case kK => first | assumption | exact rfl); (case k1 => k_asm); (case k2 => k_asm); (case k3 => k_asm); (case k4 => k_asm); (case k5 => k_asm); (case k6 => k_is); (case k7 => k_is); (case k8 => ktr_room); (case k9 => exact BindsTo.of_eq rfl); (case c5 => decide); (case kB => exact locs rfl); (case c2 => exact rfl); (case c3 => exact rfl); (case c4 => exact rfl); k_whole; intro g' L' h' FG' F' N' B' X' T'; (try dsimp only); (try k_lift B'); (try k_fold)))

local macro_rules | `(tactic| walk_at "getAttr ref") => `(tactic| (k_here; (with_reducible show wpAny _ _ (getAttr (Value.ref _) (Str.ofString "type") _) _ _ _); k_dflt ((first | refine' type107_ct (cl := []) ?B ?F ?X ?T ?k ?d ?u ?N ?x ?y ?h ?_ | refine' type135_ct (cl := []) ?B ?F ?X ?T ?k ?d ?u ?N ?x ?y ?h ?_); (case B => k_asm); (case F => k_asm); (case X => k_asm); (case T => k_asm); (case k => first | assumption | rfl); (case d => walk_at "my_depth"); (case u => walk_at "my_units"); (case N => k_asm); (case x => k_mem); (case y => k_mem); (case h => first | assumption | rfl); intro h' tk' F' N')))
local macro_rules | `(tactic| walk_at "getAttr ref") => `(tactic| (k_here; (with_reducible show wpAny _ _ (getAttr (Value.ref _) (Str.ofString "value") _) _ _ _); k_dflt ((first | refine' value107_ct (cl := []) ?B ?F ?X ?T ?k ?d ?u ?N ?x ?y ?h ?_ | refine' value135_ct (cl := []) ?B ?F ?X ?T ?k ?d ?u ?N ?x ?y ?h ?_); (case B => k_asm); (case F => k_asm); (case X => k_asm); (case T => k_asm); (case k => first | assumption | rfl); (case d => walk_at "my_depth"); (case u => walk_at "my_units"); (case N => k_asm); (case x => k_mem); (case y => k_mem); (case h => first | assumption | rfl); intro h' tk' F' N')))
local macro_rules | `(tactic| walk_at "getAttr ref") => `(tactic| (k_here; (with_reducible show wpAny _ _ (getAttr (Value.ref _) (Str.ofString "pos") _) _ _ _); k_dflt (refine' tok_own ?F ?X ?I ?g ?h ?m ?hd ?a ?n ?l ?hh ?_; (case F => k_asm); (case X => k_asm); (case I => k_inst); (case g => k_is); (case h => k_is); (case m => k_is); (case hd => k_is); (case a => k_is); (case n => k_is); (case l => k_get); (case hh => k_handed); k_whole)))
local macro_rules | `(tactic| walk_at "ite") => `(tactic| (k_closed; first | (with_reducible refine my_iteT (by with_unfolding_all rfl) ?_) | (with_reducible refine my_iteF (by with_unfolding_all rfl) ?_)))

local macro_rules | `(tactic| walk_at "call ref") => `(tactic| (k_here; k_dflt ((show wpAny _ _ (call (Value.ref 107) [_, _, _]) _ _ _); (refine' token_ct (outer := []) ?B ?F ?X ?T ?k ?d ?u ?N ?_; (case B => k_asm); (case F => k_asm); (case X => k_asm); (case T => k_asm); (case k => first | assumption | rfl); (case d => first | ktr_room | walk_at "my_depth"); (case u => first | ktr_units | walk_at "my_units"); (case N => k_asm); intro x' xd' hp' tp' h' tk' F' N' n1 n2 n3)); (try dsimp only)))
local macro_rules | `(tactic| walk_at "call ref") => `(tactic| (k_here; k_dflt ((show wpAny _ _ (call (Value.ref 135) [_]) _ _ _); (refine' eof_ct (outer := []) ?B ?F ?X ?T ?k ?d ?u ?N ?_; (case B => k_asm); (case F => k_asm); (case X => k_asm); (case T => k_asm); (case k => first | assumption | rfl); (case d => first | ktr_room | walk_at "my_depth"); (case u => first | ktr_units | walk_at "my_units"); (case N => k_asm); intro x' xd' hp' te' tp' h' tk' F' N' n1 n2 n3)); (try dsimp only)))
local macro_rules | `(tactic| walk_at "call builtin:len") => `(tactic| (k_here; k_dflt (refine' len_N ?N ?m ?c ?d ?k ?s ?_; (case N => k_asm); (case m => k_mem); (case c => rfl); (case d => rfl); (case k => exact refs_size); (case s => omega))))
local macro_rules | `(tactic| walk_at "binaryOp Add ref ref") => `(tactic| (k_here; k_dflt (refine' add_N ?F ?N ?l ?b ?z ?_; (case F => k_asm); (case N => k_asm); (case l => k_mem); (case b => k_mem); (case z => (simp only [refs, List.length_map, List.length_cons, List.length_nil]; omega))); intro x' h' F' N' n1))
local macro_rules | `(tactic| walk_at "call builtin:iter") => `(tactic| (k_here; (with_reducible show wpAny _ _ (call (Value.builtin "iter") [Value.ref _]) _ _ _); k_dflt ((refine' iter_li ?F ?N ?p ?c ?d ?_; (case F => k_asm); (case N => k_asm); (case p => k_mem); (case c => rfl); (case d => rfl); intro I' h' o' F' N' l1 hi'; (try k_lt l1)))))
local macro_rules | `(tactic| walk_at "subscriptTail") => `(tactic| (k_here; (with_reducible show wpAny _ _ (subscriptTail _ _ (Value.ref _) (Value.int (Nat.cast _) _)) _ _ _); k_dflt (refine' item_N ?N ?m ?k ?x ?_ ?s; (case N => k_asm); (case m => k_mem); (case k => omega); (case x => assumption); (case s => with_unfolding_all rfl))))
local macro_rules | `(tactic| walk_at "subscriptTail Name Name ref int") => `(tactic| (k_here; (with_reducible show wpAny _ _ (subscriptTail _ _ (Value.ref _) (Value.int (Nat.cast _) _)) _ _ _); k_dflt (refine' item_N ?N ?m ?k ?x ?_ ?s; (case N => k_asm); (case m => k_mem); (case k => omega); (case x => assumption); (case s => with_unfolding_all rfl))))
local macro_rules | `(tactic| walk_at "subscriptTail") => `(tactic| (k_here; (with_reducible show wpAny _ _ (subscriptTail _ _ (Value.ref _) (Value.int 0 _)) _ _ _); k_dflt (refine' tup0 ?g ?_ ?s; (case g => first | exact Fr.keep (by k_asm) _ _ (by assumption) | exact news_get (by k_asm) (by assumption) | exact news_get (by k_asm) (by k_mem)); (case s => with_unfolding_all rfl))))
local macro_rules | `(tactic| walk_at "subscriptTail Name Constant ref int") => `(tactic| (k_here; (with_reducible show wpAny _ _ (subscriptTail _ _ (Value.ref _) (Value.int 0 _)) _ _ _); k_dflt (refine' tup0 ?g ?_ ?s; (case g => first | exact Fr.keep (by k_asm) _ _ (by assumption) | exact news_get (by k_asm) (by assumption) | exact news_get (by k_asm) (by k_mem)); (case s => with_unfolding_all rfl))))
local macro_rules | `(tactic| walk_at "subscriptTail Subscript Constant ref int") => `(tactic| (k_here; (with_reducible show wpAny _ _ (subscriptTail _ _ (Value.ref _) (Value.int 0 _)) _ _ _); k_dflt (refine' tup0 ?g ?_ ?s; (case g => first | exact Fr.keep (by k_asm) _ _ (by assumption) | exact news_get (by k_asm) (by assumption) | exact news_get (by k_asm) (by k_mem)); (case s => with_unfolding_all rfl))))
local macro_rules | `(tactic| walk_at "subscriptTail") => `(tactic| (k_here; (with_reducible show wpAny _ _ (subscriptTail _ _ (Value.ref _) (Value.int 1 _)) _ _ _); k_dflt (refine' tup1 ?g ?_ ?s; (case g => first | exact Fr.keep (by k_asm) _ _ (by assumption) | exact news_get (by k_asm) (by assumption) | exact news_get (by k_asm) (by k_mem)); (case s => with_unfolding_all rfl))))
local macro_rules | `(tactic| walk_at "subscriptTail Name Constant ref int") => `(tactic| (k_here; (with_reducible show wpAny _ _ (subscriptTail _ _ (Value.ref _) (Value.int 1 _)) _ _ _); k_dflt (refine' tup1 ?g ?_ ?s; (case g => first | exact Fr.keep (by k_asm) _ _ (by assumption) | exact news_get (by k_asm) (by assumption) | exact news_get (by k_asm) (by k_mem)); (case s => with_unfolding_all rfl))))
local macro_rules | `(tactic| walk_at "call ref") => `(tactic| (k_here; k_dflt ((show wpAny _ _ (call (Value.ref 174) [Value.ref _]) _ _ _); (refine' peek_ct (outer := []) ?B ?F ?X ?T ?k ?d ?u ?N ?i ?l ?a ?x ?o1 ?o2 ?o3 ?o4 ?o5 ?o6 ?o7 ?o8 ?o9 ?oa ?ob ?oc ?_; (case B => k_asm); (case F => k_asm); (case X => k_asm); (case T => k_asm); (case k => first | assumption | rfl); (case d => first | ktr_room | walk_at "my_depth"); (case u => first | ktr_units | walk_at "my_units"); (case N => k_asm); (case i => k_asm); (case l => k_mem); (case a => first | assumption | exact at_true (by assumption)); (case x => assumption); (case o1 => assumption); (case o2 => assumption); (case o3 => assumption); (case o4 => assumption); (case o5 => assumption); (case o6 => assumption); (case o7 => assumption); (case o8 => assumption); (case o9 => assumption); (case oa => assumption); (case ob => assumption); (case oc => assumption); intro io' h' tk' F' N' hi')); (try dsimp only)))
local macro_rules | `(tactic| walk_at "getAttr ref") => `(tactic| (k_here; (with_reducible show wpAny _ _ (getAttr (Value.ref _) (Str.ofString "type") _) _ _ _); k_dflt ((refine' type107_ct ?B ?F ?X ?T ?k ?d ?u ?N ?x ?y ?h ?_); (case B => k_asm); (case F => k_asm); (case X => k_asm); (case T => k_asm); (case k => first | assumption | rfl); (case d => first | ktr_room | walk_at "my_depth"); (case u => first | ktr_units | walk_at "my_units"); (case N => k_asm); (case x => k_mem); (case y => k_mem); (case h => first | assumption | rfl); intro h' tk' F' N')))
local macro_rules | `(tactic| walk_at "getAttr ref") => `(tactic| (k_here; (with_reducible show wpAny _ _ (getAttr (Value.ref _) (Str.ofString "type") _) _ _ _); k_dflt ((refine' type135_ct ?B ?F ?X ?T ?k ?d ?u ?N ?x ?y ?h ?_); (case B => k_asm); (case F => k_asm); (case X => k_asm); (case T => k_asm); (case k => first | assumption | rfl); (case d => first | ktr_room | walk_at "my_depth"); (case u => first | ktr_units | walk_at "my_units"); (case N => k_asm); (case x => k_mem); (case y => k_mem); (case h => first | assumption | rfl); intro h' tk' F' N')))
local macro_rules | `(tactic| walk_at "getAttr ref") => `(tactic| (k_here; (with_reducible show wpAny _ _ (getAttr (Value.ref _) (Str.ofString "value") _) _ _ _); k_dflt ((refine' value107_ct ?B ?F ?X ?T ?k ?d ?u ?N ?x ?y ?h ?_); (case B => k_asm); (case F => k_asm); (case X => k_asm); (case T => k_asm); (case k => first | assumption | rfl); (case d => first | ktr_room | walk_at "my_depth"); (case u => first | ktr_units | walk_at "my_units"); (case N => k_asm); (case x => k_mem); (case y => k_mem); (case h => first | assumption | rfl); intro h' tk' F' N')))
local macro_rules | `(tactic| walk_at "getAttr ref") => `(tactic| (k_here; (with_reducible show wpAny _ _ (getAttr (Value.ref _) (Str.ofString "value") _) _ _ _); k_dflt ((refine' value135_ct ?B ?F ?X ?T ?k ?d ?u ?N ?x ?y ?h ?_); (case B => k_asm); (case F => k_asm); (case X => k_asm); (case T => k_asm); (case k => first | assumption | rfl); (case d => first | ktr_room | walk_at "my_depth"); (case u => first | ktr_units | walk_at "my_units"); (case N => k_asm); (case x => k_mem); (case y => k_mem); (case h => first | assumption | rfl); intro h' tk' F' N')))

local macro_rules | `(tactic| walk_at "compareOp NotEq ref ref") => `(tactic| (k_here; k_dflt (refine' ne_tup3 ?N ?a ?b ?x ?y ?u ?_; (case N => k_asm); (case a => k_mem); (case b => k_mem); (case x => first | assumption | decide +kernel); (case y => first | assumption | decide +kernel); (case u => first | ktr_units | walk_at "my_units" | decide))))
local macro_rules | `(tactic| walk_at "compareOp NotEq ref ref") => `(tactic| (k_here; k_dflt (refine' ne_tup3N ?N ?a ?b ?x ?u ?_; (case N => k_asm); (case a => k_mem); (case b => k_mem); (case x => decide +kernel); (case u => first | ktr_units | walk_at "my_units" | decide))))
local macro_rules | `(tactic| walk_at "compareOp NotEq ref ref") => `(tactic| (k_here; k_dflt (refine' ne_pair ?N ?a ?b ?x ?y ?u ?_; (case N => k_asm); (case a => k_mem); (case b => first | exact news_get (by k_asm) (by k_mem) | exact Fr.keep (by k_asm) _ _ (by assumption) | exact news_get (by k_asm) (by assumption)); (case x => first | assumption | decide +kernel); (case y => first | assumption | decide +kernel); (case u => first | ktr_units | walk_at "my_units" | decide))))
local macro_rules | `(tactic| walk_at "compareOp NotEq ref ref") => `(tactic| (k_here; k_dflt (refine' ne_pairN ?N ?a ?b ?x ?u ?_; (case N => k_asm); (case a => k_mem); (case b => first | exact news_get (by k_asm) (by k_mem) | exact Fr.keep (by k_asm) _ _ (by assumption) | exact news_get (by k_asm) (by assumption)); (case x => decide +kernel); (case u => first | ktr_units | walk_at "my_units" | decide))))

local macro_rules | `(tactic| walk_at "call type:tuple") => `(tactic| (k_here; (with_reducible show wpAny _ _ (call (Value.type "tuple") [Value.ref _]) _ _ _); k_dflt ((refine' tup107_N ?h ?d ?f ?u ?F ?X ?N ?T ?_); (case h => rfl); (case d => walk_at "my_depth"); (case f => rfl); (case u => first | ktr_units | walk_at "my_units" | decide); (case F => k_asm); (case X => k_asm); (case N => k_asm); (case T => k_mem); intro y' h' tk' F' N' n1)))
local macro_rules | `(tactic| walk_at "call type:tuple") => `(tactic| (k_here; (with_reducible show wpAny _ _ (call (Value.type "tuple") [Value.ref _]) _ _ _); k_dflt ((refine' tup135_N ?h ?d ?f ?u ?F ?X ?N ?T ?_); (case h => rfl); (case d => walk_at "my_depth"); (case f => rfl); (case u => first | ktr_units | walk_at "my_units" | decide); (case F => k_asm); (case X => k_asm); (case N => k_asm); (case T => k_mem); intro y' h' tk' F' N' n1)))

local macro_rules | `(tactic| walk_at "subscriptTail") => `(tactic| (k_here; (with_reducible show wpAny _ _ (subscriptTail _ (PySem.Expr.Slice _ _ _ _) (Value.ref _) (Value.ref _)) _ _ _); k_dflt (refine' slice_N ?F ?N ?m ?k ?z ?_ ?s ?t; (case F => k_asm); (case N => k_asm); (case m => k_mem); (case k => assumption); (case z => assumption); (case s => with_unfolding_all rfl); (case t => (intro _; with_unfolding_all rfl))); intro D' h' F' N' l1))


theorem pA2 : parts.1.2.2.2.1 := by
  k_with_none
  conv => whnf
  k_fill
  unhygienic intros
  have hus2 : (items.toList.take spot).toArray.size ≤ 100 := by
    have := take_size KR (show spot ≤ (ks.map tbl).length by omega)
    omega
  by_cases hid : va = Str.ofString "IDENT"
  · subst hid
    repeat' (first | (exfalso; rename_i hz; with_reducible first | exact bne_absurd hz (by assumption) | exact beq_absurd hz (by assumption) | exact and_absurd hz (by assumption)) | ((fail_if_success (with_reducible show wpAny _ _ (call (Value.ref 223) _) _ _ _)); (first | (k_unfold; (try dsimp only)) | walk1 | (dsimp only; walk1) | (leave1; walk_say "STEP leave1"; try dsimp only))))
    obtain ⟨R2, N2, hX2, hRR, q4, q7, q9⟩ := regroup [(_, _), (_, _)] (by k_asm) (by simp) hli o4 o7 o9
    simp only [List.forall_mem_cons, List.not_mem_nil, false_implies, implies_true, and_true] at hX2
    replace hTL := hRR _ hTL
    replace hta := hRR _ hta
    replace htd := hRR _ htd
    obtain ⟨x1, x2⟩ := hX2
    (k_here; k_dflt ((show wpAny _ _ (call (Value.ref 223) [Value.ref _, _]) _ _ _); (refine' taken2I_ct ?B_taken2I_ct ?XB_taken2I_ct ?TB_taken2I_ct ?F_taken2I_ct ?X_taken2I_ct ?T_taken2I_ct ?k_taken2I_ct ?d_taken2I_ct ?u_taken2I_ct ?N_taken2I_ct ?i_taken2I_ct ?l_taken2I_ct ?a_taken2I_ct ?x_taken2I_ct ?s_taken2I_ct ?ta_taken2I_ct ?td_taken2I_ct ?la_taken2I_ct ?lb_taken2I_ct ?j0_taken2I_ct ?j1_taken2I_ct ?hid_taken2I_ct ?o1_taken2I_ct ?o2_taken2I_ct ?o3_taken2I_ct ?o4_taken2I_ct ?o5_taken2I_ct ?o6_taken2I_ct ?o7_taken2I_ct ?o8_taken2I_ct ?o9_taken2I_ct ?oa_taken2I_ct ?ob_taken2I_ct ?oc_taken2I_ct ?_; (case B_taken2I_ct => k_asm); (case F_taken2I_ct => k_asm); (case X_taken2I_ct => k_asm); (case T_taken2I_ct => k_asm); (case k_taken2I_ct => first | assumption | rfl); (case d_taken2I_ct => first | ktr_room | walk_at "my_depth"); (case u_taken2I_ct => first | ktr_units | walk_at "my_units"); (case N_taken2I_ct => k_asm); (case XB_taken2I_ct => k_asm); (case TB_taken2I_ct => k_asm); (case i_taken2I_ct => k_asm); (case l_taken2I_ct => k_mem); (case a_taken2I_ct => assumption); (case x_taken2I_ct => assumption); (case s_taken2I_ct => assumption); (case ta_taken2I_ct => assumption); (case td_taken2I_ct => assumption); (case la_taken2I_ct => assumption); (case lb_taken2I_ct => assumption); (case j0_taken2I_ct => omega); (case j1_taken2I_ct => omega); (case hid_taken2I_ct => first | assumption | rfl); (all_goals (try assumption)); intro io' pv' y' tt' h' tk' F' N' hi')); (try dsimp only))
    repeat' (first | (exfalso; rename_i hz; with_reducible first | exact bne_absurd hz (by assumption) | exact beq_absurd hz (by assumption) | exact and_absurd hz (by assumption)) | ((with_reducible show MidS _ _ _ _ _ _ _ _ _ _ _ _ _ _ _ _ _ _ _ _ _ _ _); exact mid_end_push hx (by k_asm) (by k_asm) (by assumption) (by k_mem) (by k_mem) (by k_mem) (by k_mem) (fun p hp => by simp only [List.mem_cons]; simp [hRR p hp]) at_false (by omega) (by with_unfolding_all rfl) (by with_unfolding_all rfl) (by with_unfolding_all rfl)) | (first | (k_unfold; (try dsimp only)) | walk1 | (dsimp only; walk1) | (leave1; walk_say "STEP leave1"; try dsimp only)))
  · skip
    repeat' (first | (exfalso; rename_i hz; with_reducible first | exact bne_absurd hz (by assumption) | exact beq_absurd hz (by assumption) | exact and_absurd hz (by assumption)) | ((fail_if_success (with_reducible show wpAny _ _ (call (Value.ref 223) _) _ _ _)); (first | (k_unfold; (try dsimp only)) | walk1 | (dsimp only; walk1) | (leave1; walk_say "STEP leave1"; try dsimp only))))
    obtain ⟨R2, N2, hX2, hRR, q4, q7, q9⟩ := regroup [(_, _), (_, _)] (by k_asm) (by simp) hli o4 o7 o9
    simp only [List.forall_mem_cons, List.not_mem_nil, false_implies, implies_true, and_true] at hX2
    replace hTL := hRR _ hTL
    replace hta := hRR _ hta
    replace htd := hRR _ htd
    obtain ⟨x1, x2⟩ := hX2
    (k_here; k_dflt ((show wpAny _ _ (call (Value.ref 223) [Value.ref _, _]) _ _ _); (refine' taken2R_ct ?B_taken2R_ct ?XB_taken2R_ct ?TB_taken2R_ct ?F_taken2R_ct ?X_taken2R_ct ?T_taken2R_ct ?k_taken2R_ct ?d_taken2R_ct ?u_taken2R_ct ?N_taken2R_ct ?i_taken2R_ct ?l_taken2R_ct ?a_taken2R_ct ?x_taken2R_ct ?s_taken2R_ct ?ta_taken2R_ct ?td_taken2R_ct ?la_taken2R_ct ?lb_taken2R_ct ?j0_taken2R_ct ?j1_taken2R_ct ?hid_taken2R_ct ?o1_taken2R_ct ?o2_taken2R_ct ?o3_taken2R_ct ?o4_taken2R_ct ?o5_taken2R_ct ?o6_taken2R_ct ?o7_taken2R_ct ?o8_taken2R_ct ?o9_taken2R_ct ?oa_taken2R_ct ?ob_taken2R_ct ?oc_taken2R_ct ?_; (case B_taken2R_ct => k_asm); (case F_taken2R_ct => k_asm); (case X_taken2R_ct => k_asm); (case T_taken2R_ct => k_asm); (case k_taken2R_ct => first | assumption | rfl); (case d_taken2R_ct => first | ktr_room | walk_at "my_depth"); (case u_taken2R_ct => first | ktr_units | walk_at "my_units"); (case N_taken2R_ct => k_asm); (case XB_taken2R_ct => k_asm); (case TB_taken2R_ct => k_asm); (case i_taken2R_ct => k_asm); (case l_taken2R_ct => k_mem); (case a_taken2R_ct => assumption); (case x_taken2R_ct => assumption); (case s_taken2R_ct => assumption); (case ta_taken2R_ct => assumption); (case td_taken2R_ct => assumption); (case la_taken2R_ct => assumption); (case lb_taken2R_ct => assumption); (case j0_taken2R_ct => omega); (case j1_taken2R_ct => omega); (case hid_taken2R_ct => first | assumption | rfl); (all_goals (try assumption)); intro io' pv' y' tt' h' tk' F' N' hi')); (try dsimp only))
    repeat' (first | (exfalso; rename_i hz; with_reducible first | exact bne_absurd hz (by assumption) | exact beq_absurd hz (by assumption) | exact and_absurd hz (by assumption)) | ((with_reducible show MidS _ _ _ _ _ _ _ _ _ _ _ _ _ _ _ _ _ _ _ _ _ _ _); exact mid_end_push hx (by k_asm) (by k_asm) (by assumption) (by k_mem) (by k_mem) (by k_mem) (by k_mem) (fun p hp => by simp only [List.mem_cons]; simp [hRR p hp]) at_false (by omega) (by with_unfolding_all rfl) (by with_unfolding_all rfl) (by with_unfolding_all rfl)) | (first | (k_unfold; (try dsimp only)) | walk1 | (dsimp only; walk1) | (leave1; walk_say "STEP leave1"; try dsimp only)))
end Mine
end
section
theorem Mine.rst_pA3 : True := by (w_top off); first | (walk1; done) | trivial
set_option maxHeartbeats 100000000
open PySem PySem.W PyProof.Rows PySem.Calls
namespace Mine
local macro_rules | `(tactic| walk_at "eval Name") => `(tactic| (k_here; (fail_if_success k_inBlock); k_dflt (first | (refine' nameX_L ?F ?v ?_ ?a ?b ?d; (case b => kernel_rfl); (case d => kernel_rfl); (case F => k_asm); (case a => rfl); (case v => rfl); k_whole) | (refine' nameX_C ?N ?c ?m ?d ?_ ?a ?b ?e; (case b => kernel_rfl); (case e => kernel_rfl); (case a => rfl); (case N => k_asm); (case c => rfl); (case m => k_mem); (case d => k_asm); k_whole) | (refine' nameX_K ?F ?X ?T ?e ?_ ?a ?b ?d; (case b => kernel_rfl); (case d => kernel_rfl); (case F => k_asm); (case X => k_asm); (case T => k_asm); (case a => rfl); (case e => k_is); k_whole) | (refine' nameX_B ?F ?X ?T ?e ?v ?n ?_ ?a ?b ?d; (case b => kernel_rfl); (case d => kernel_rfl); (case F => k_asm); (case X => k_asm); (case T => k_asm); (case a => rfl); (case e => k_is); (case v => boot_fast); (case n => decide); k_whole))))
local macro_rules | `(tactic| walk_at "storeName") => `(tactic| (k_here; k_dflt (first | (refine' storeX_L ?F ?N ?_ ?a ?b; (case b => kernel_rfl); (case F => k_asm); (case N => k_asm); (case a => rfl); k_whole; intro h' F' N'; (try k_sweep)) | (refine' storeX_C ?F ?N ?c ?U ?d ?_ ?a ?b; (case b => kernel_rfl); (case a => rfl); (case F => k_asm); (case N => k_asm); (case c => rfl); (case U => k_updF); (case d => k_asm); k_whole; intro h' o' F' N' d'; (try dsimp only at N'); (try k_sweep)))))
local macro_rules | `(tactic| walk_at "spliced") => `(tactic| first | with_reducible refine args_cons ?_ (by with_unfolding_all rfl) | with_reducible refine args_nil ⟨Fr.keep (by assumption) _ _ (by assumption), ?_⟩ | (with_reducible refine args_nil ?_; try simp only [List.cons_append, List.nil_append]))
local macro_rules | `(tactic| k_mem) => `(tactic| assumption)
local macro_rules | `(tactic| k_all) => `(tactic| assumption)
local macro_rules | `(tactic| k_ne) => `(tactic| first | assumption | exact Ne.symm (by assumption))
local macro_rules | `(tactic| k_inst) => `(tactic| (refine' instAt_seq ?N ?h1 ?h2; (case N => k_asm); (case h1 => k_mem); (case h2 => k_mem)))
local macro_rules | `(tactic| walk_at "my_depth") => `(tactic| ((try simp only [depth_under_make, depth_under_kw, depth_in1, depth_deeper, depth_caller]); (try dsimp only [ktrTop]); omega))
local macro_rules | `(tactic| walk_at "my_units") => `(tactic| ((try simp only [units_under_make, units_in1, units_deeper, Around.mark_units, units_caller]); (try dsimp only [ktrTop]); omega))
local macro_rules | `(tactic| walk_at "my_enter") => `(tactic| (refine' code_def ?k1 ?k2 ?k3 ?k4 ?k5 ?kA ?kF ?kK ?k6 ?k7 ?k8 ?k9 ?kB ?_ ?c2 ?c3 ?c4 ?c5; (case kA => exact rfl); (case kF => exact rfl); (case kK => first | assumption | exact rfl); (case k1 => k_asm); (case k2 => k_asm); (case k3 => k_asm); (case k4 => k_asm); (case k5 => k_asm); (case k6 => k_is); (case k7 => k_is); (case k8 => ktr_room); (case k9 => exact BindsTo.of_eq rfl); (case c5 => decide); (case kB => exact locs rfl); (case c2 => exact rfl); (case c3 => exact rfl); (case c4 => exact rfl); k_whole; intro g' L' h' FG' F' N' B' X' T'; (try dsimp only); (try k_lift B'); (try k_fold)))

local macro_rules | `(tactic| walk_at "getAttr ref") => `(tactic| (k_here; (with_reducible show wpAny _ _ (getAttr (Value.ref _) (Str.ofString "type") _) _ _ _); k_dflt ((first | refine' type107_ct (cl := []) ?B ?F ?X ?T ?k ?d ?u ?N ?x ?y ?h ?_ | refine' type135_ct (cl := []) ?B ?F ?X ?T ?k ?d ?u ?N ?x ?y ?h ?_); (case B => k_asm); (case F => k_asm); (case X => k_asm); (case T => k_asm); (case k => first | assumption | rfl); (case d => walk_at "my_depth"); (case u => walk_at "my_units"); (case N => k_asm); (case x => k_mem); (case y => k_mem); (case h => first | assumption | rfl); intro h' tk' F' N')))
local macro_rules | `(tactic| walk_at "getAttr ref") => `(tactic| (k_here; (with_reducible show wpAny _ _ (getAttr (Value.ref _) (Str.ofString "value") _) _ _ _); k_dflt ((first | refine' value107_ct (cl := []) ?B ?F ?X ?T ?k ?d ?u ?N ?x ?y ?h ?_ | refine' value135_ct (cl := []) ?B ?F ?X ?T ?k ?d ?u ?N ?x ?y ?h ?_); (case B => k_asm); (case F => k_asm); (case X => k_asm); (case T => k_asm); (case k => first | assumption | rfl); (case d => walk_at "my_depth"); (case u => walk_at "my_units"); (case N => k_asm); (case x => k_mem); (case y => k_mem); (case h => first | assumption | rfl); intro h' tk' F' N')))
local macro_rules | `(tactic| walk_at "getAttr ref") => `(tactic| (k_here; (with_reducible show wpAny _ _ (getAttr (Value.ref _) (Str.ofString "pos") _) _ _ _); k_dflt (refine' tok_own ?F ?X ?I ?g ?h ?m ?hd ?a ?n ?l ?hh ?_; (case F => k_asm); (case X => k_asm); (case I => k_inst); (case g => k_is); (case h => k_is); (case m => k_is); (case hd => k_is); (case a => k_is); (case n => k_is); (case l => k_get); (case hh => k_handed); k_whole)))
local macro_rules | `(tactic| walk_at "ite") => `(tactic| (k_closed; first | (with_reducible refine my_iteT (by with_unfolding_all rfl) ?_) | (with_reducible refine my_iteF (by with_unfolding_all rfl) ?_)))

local macro_rules | `(tactic| walk_at "call ref") => `(tactic| (k_here; k_dflt ((show wpAny _ _ (call (Value.ref 107) [_, _, _]) _ _ _); (refine' token_ct (outer := []) ?B ?F ?X ?T ?k ?d ?u ?N ?_; (case B => k_asm); (case F => k_asm); (case X => k_asm); (case T => k_asm); (case k => first | assumption | rfl); (case d => first | ktr_room | walk_at "my_depth"); (case u => first | ktr_units | walk_at "my_units"); (case N => k_asm); intro x' xd' hp' tp' h' tk' F' N' n1 n2 n3)); (try dsimp only)))
local macro_rules | `(tactic| walk_at "call ref") => `(tactic| (k_here; k_dflt ((show wpAny _ _ (call (Value.ref 135) [_]) _ _ _); (refine' eof_ct (outer := []) ?B ?F ?X ?T ?k ?d ?u ?N ?_; (case B => k_asm); (case F => k_asm); (case X => k_asm); (case T => k_asm); (case k => first | assumption | rfl); (case d => first | ktr_room | walk_at "my_depth"); (case u => first | ktr_units | walk_at "my_units"); (case N => k_asm); intro x' xd' hp' te' tp' h' tk' F' N' n1 n2 n3)); (try dsimp only)))
local macro_rules | `(tactic| walk_at "call builtin:len") => `(tactic| (k_here; k_dflt (refine' len_N ?N ?m ?c ?d ?k ?s ?_; (case N => k_asm); (case m => k_mem); (case c => rfl); (case d => rfl); (case k => exact refs_size); (case s => omega))))
local macro_rules | `(tactic| walk_at "binaryOp Add ref ref") => `(tactic| (k_here; k_dflt (refine' add_N ?F ?N ?l ?b ?z ?_; (case F => k_asm); (case N => k_asm); (case l => k_mem); (case b => k_mem); (case z => (simp only [refs, List.length_map, List.length_cons, List.length_nil]; omega))); intro x' h' F' N' n1))
local macro_rules | `(tactic| walk_at "call builtin:iter") => `(tactic| (k_here; (with_reducible show wpAny _ _ (call (Value.builtin "iter") [Value.ref _]) _ _ _); k_dflt ((refine' iter_li ?F ?N ?p ?c ?d ?_; (case F => k_asm); (case N => k_asm); (case p => k_mem); (case c => rfl); (case d => rfl); intro I' h' o' F' N' l1 hi'; (try k_lt l1)))))
local macro_rules | `(tactic| walk_at "subscriptTail") => `(tactic| (k_here; (with_reducible show wpAny _ _ (subscriptTail _ _ (Value.ref _) (Value.int (Nat.cast _) _)) _ _ _); k_dflt (refine' item_N ?N ?m ?k ?x ?_ ?s; (case N => k_asm); (case m => k_mem); (case k => omega); (case x => assumption); (case s => with_unfolding_all rfl))))
local macro_rules | `(tactic| walk_at "subscriptTail Name Name ref int") => `(tactic| (k_here; (with_reducible show wpAny _ _ (subscriptTail _ _ (Value.ref _) (Value.int (Nat.cast _) _)) _ _ _); k_dflt (refine' item_N ?N ?m ?k ?x ?_ ?s; (case N => k_asm); (case m => k_mem); (case k => omega); (case x => assumption); (case s => with_unfolding_all rfl))))
local macro_rules | `(tactic| walk_at "subscriptTail") => `(tactic| (k_here; (with_reducible show wpAny _ _ (subscriptTail _ _ (Value.ref _) (Value.int 0 _)) _ _ _); k_dflt (refine' tup0 ?g ?_ ?s; (case g => first | exact Fr.keep (by k_asm) _ _ (by assumption) | exact news_get (by k_asm) (by assumption) | exact news_get (by k_asm) (by k_mem)); (case s => with_unfolding_all rfl))))
local macro_rules | `(tactic| walk_at "subscriptTail Name Constant ref int") => `(tactic| (k_here; (with_reducible show wpAny _ _ (subscriptTail _ _ (Value.ref _) (Value.int 0 _)) _ _ _); k_dflt (refine' tup0 ?g ?_ ?s; (case g => first | exact Fr.keep (by k_asm) _ _ (by assumption) | exact news_get (by k_asm) (by assumption) | exact news_get (by k_asm) (by k_mem)); (case s => with_unfolding_all rfl))))
local macro_rules | `(tactic| walk_at "subscriptTail Subscript Constant ref int") => `(tactic| (k_here; (with_reducible show wpAny _ _ (subscriptTail _ _ (Value.ref _) (Value.int 0 _)) _ _ _); k_dflt (refine' tup0 ?g ?_ ?s; (case g => first | exact Fr.keep (by k_asm) _ _ (by assumption) | exact news_get (by k_asm) (by assumption) | exact news_get (by k_asm) (by k_mem)); (case s => with_unfolding_all rfl))))
local macro_rules | `(tactic| walk_at "subscriptTail") => `(tactic| (k_here; (with_reducible show wpAny _ _ (subscriptTail _ _ (Value.ref _) (Value.int 1 _)) _ _ _); k_dflt (refine' tup1 ?g ?_ ?s; (case g => first | exact Fr.keep (by k_asm) _ _ (by assumption) | exact news_get (by k_asm) (by assumption) | exact news_get (by k_asm) (by k_mem)); (case s => with_unfolding_all rfl))))
local macro_rules | `(tactic| walk_at "subscriptTail Name Constant ref int") => `(tactic| (k_here; (with_reducible show wpAny _ _ (subscriptTail _ _ (Value.ref _) (Value.int 1 _)) _ _ _); k_dflt (refine' tup1 ?g ?_ ?s; (case g => first | exact Fr.keep (by k_asm) _ _ (by assumption) | exact news_get (by k_asm) (by assumption) | exact news_get (by k_asm) (by k_mem)); (case s => with_unfolding_all rfl))))
local macro_rules | `(tactic| walk_at "call ref") => `(tactic| (k_here; k_dflt ((show wpAny _ _ (call (Value.ref 174) [Value.ref _]) _ _ _); (refine' peek_ct (outer := []) ?B ?F ?X ?T ?k ?d ?u ?N ?i ?l ?a ?x ?o1 ?o2 ?o3 ?o4 ?o5 ?o6 ?o7 ?o8 ?o9 ?oa ?ob ?oc ?_; (case B => k_asm); (case F => k_asm); (case X => k_asm); (case T => k_asm); (case k => first | assumption | rfl); (case d => first | ktr_room | walk_at "my_depth"); (case u => first | ktr_units | walk_at "my_units"); (case N => k_asm); (case i => k_asm); (case l => k_mem); (case a => first | assumption | exact at_true (by assumption)); (case x => assumption); (case o1 => assumption); (case o2 => assumption); (case o3 => assumption); (case o4 => assumption); (case o5 => assumption); (case o6 => assumption); (case o7 => assumption); (case o8 => assumption); (case o9 => assumption); (case oa => assumption); (case ob => assumption); (case oc => assumption); intro io' h' tk' F' N' hi')); (try dsimp only)))
local macro_rules | `(tactic| walk_at "getAttr ref") => `(tactic| (k_here; (with_reducible show wpAny _ _ (getAttr (Value.ref _) (Str.ofString "type") _) _ _ _); k_dflt ((refine' type107_ct ?B ?F ?X ?T ?k ?d ?u ?N ?x ?y ?h ?_); (case B => k_asm); (case F => k_asm); (case X => k_asm); (case T => k_asm); (case k => first | assumption | rfl); (case d => first | ktr_room | walk_at "my_depth"); (case u => first | ktr_units | walk_at "my_units"); (case N => k_asm); (case x => k_mem); (case y => k_mem); (case h => first | assumption | rfl); intro h' tk' F' N')))
local macro_rules | `(tactic| walk_at "getAttr ref") => `(tactic| (k_here; (with_reducible show wpAny _ _ (getAttr (Value.ref _) (Str.ofString "type") _) _ _ _); k_dflt ((refine' type135_ct ?B ?F ?X ?T ?k ?d ?u ?N ?x ?y ?h ?_); (case B => k_asm); (case F => k_asm); (case X => k_asm); (case T => k_asm); (case k => first | assumption | rfl); (case d => first | ktr_room | walk_at "my_depth"); (case u => first | ktr_units | walk_at "my_units"); (case N => k_asm); (case x => k_mem); (case y => k_mem); (case h => first | assumption | rfl); intro h' tk' F' N')))
local macro_rules | `(tactic| walk_at "getAttr ref") => `(tactic| (k_here; (with_reducible show wpAny _ _ (getAttr (Value.ref _) (Str.ofString "value") _) _ _ _); k_dflt ((refine' value107_ct ?B ?F ?X ?T ?k ?d ?u ?N ?x ?y ?h ?_); (case B => k_asm); (case F => k_asm); (case X => k_asm); (case T => k_asm); (case k => first | assumption | rfl); (case d => first | ktr_room | walk_at "my_depth"); (case u => first | ktr_units | walk_at "my_units"); (case N => k_asm); (case x => k_mem); (case y => k_mem); (case h => first | assumption | rfl); intro h' tk' F' N')))
local macro_rules | `(tactic| walk_at "getAttr ref") => `(tactic| (k_here; (with_reducible show wpAny _ _ (getAttr (Value.ref _) (Str.ofString "value") _) _ _ _); k_dflt ((refine' value135_ct ?B ?F ?X ?T ?k ?d ?u ?N ?x ?y ?h ?_); (case B => k_asm); (case F => k_asm); (case X => k_asm); (case T => k_asm); (case k => first | assumption | rfl); (case d => first | ktr_room | walk_at "my_depth"); (case u => first | ktr_units | walk_at "my_units"); (case N => k_asm); (case x => k_mem); (case y => k_mem); (case h => first | assumption | rfl); intro h' tk' F' N')))

local macro_rules | `(tactic| walk_at "compareOp NotEq ref ref") => `(tactic| (k_here; k_dflt (refine' ne_tup3 ?N ?a ?b ?x ?y ?u ?_; (case N => k_asm); (case a => k_mem); (case b => k_mem); (case x => first | assumption | decide +kernel); (case y => first | assumption | decide +kernel); (case u => first | ktr_units | walk_at "my_units" | decide))))
local macro_rules | `(tactic| walk_at "compareOp NotEq ref ref") => `(tactic| (k_here; k_dflt (refine' ne_tup3N ?N ?a ?b ?x ?u ?_; (case N => k_asm); (case a => k_mem); (case b => k_mem); (case x => decide +kernel); (case u => first | ktr_units | walk_at "my_units" | decide))))
local macro_rules | `(tactic| walk_at "compareOp NotEq ref ref") => `(tactic| (k_here; k_dflt (refine' ne_pair ?N ?a ?b ?x ?y ?u ?_; (case N => k_asm); (case a => k_mem); (case b => first | exact news_get (by k_asm) (by k_mem) | exact Fr.keep (by k_asm) _ _ (by assumption) | exact news_get (by k_asm) (by assumption)); (case x => first | assumption | decide +kernel); (case y => first | assumption | decide +kernel); (case u => first | ktr_units | walk_at "my_units" | decide))))
local macro_rules | `(tactic| walk_at "compareOp NotEq ref ref") => `(tactic| (k_here; k_dflt (refine' ne_pairN ?N ?a ?b ?x ?u ?_; (case N => k_asm); (case a => k_mem); (case b => first | exact news_get (by k_asm) (by k_mem) | exact Fr.keep (by k_asm) _ _ (by assumption) | exact news_get (by k_asm) (by assumption)); (case x => decide +kernel); (case u => first | ktr_units | walk_at "my_units" | decide))))

local macro_rules | `(tactic| walk_at "call type:tuple") => `(tactic| (k_here; (with_reducible show wpAny _ _ (call (Value.type "tuple") [Value.ref _]) _ _ _); k_dflt ((refine' tup107_N ?h ?d ?f ?u ?F ?X ?N ?T ?_); (case h => rfl); (case d => walk_at "my_depth"); (case f => rfl); (case u => first | ktr_units | walk_at "my_units" | decide); (case F => k_asm); (case X => k_asm); (case N => k_asm); (case T => k_mem); intro y' h' tk' F' N' n1)))
local macro_rules | `(tactic| walk_at "call type:tuple") => `(tactic| (k_here; (with_reducible show wpAny _ _ (call (Value.type "tuple") [Value.ref _]) _ _ _); k_dflt ((refine' tup135_N ?h ?d ?f ?u ?F ?X ?N ?T ?_); (case h => rfl); (case d => walk_at "my_depth"); (case f => rfl); (case u => first | ktr_units | walk_at "my_units" | decide); (case F => k_asm); (case X => k_asm); (case N => k_asm); (case T => k_mem); intro y' h' tk' F' N' n1)))

local macro_rules | `(tactic| walk_at "subscriptTail") => `(tactic| (k_here; (with_reducible show wpAny _ _ (subscriptTail _ (PySem.Expr.Slice _ _ _ _) (Value.ref _) (Value.ref _)) _ _ _); k_dflt (refine' slice_N ?F ?N ?m ?k ?z ?_ ?s ?t; (case F => k_asm); (case N => k_asm); (case m => k_mem); (case k => assumption); (case z => assumption); (case s => with_unfolding_all rfl); (case t => (intro _; with_unfolding_all rfl))); intro D' h' F' N' l1))

local macro_rules | `(tactic| walk_at "compareOp Eq ref ref") => `(tactic| (k_here; k_dflt (refine' eq_pairs ?N ?a ?b ?x ?y ?x2 ?y2 ?u ?_; (case N => k_asm); (case a => first | exact news_get (by k_asm) (by k_mem) | exact Fr.keep (by k_asm) _ _ (by assumption) | exact news_get (by k_asm) (by assumption)); (case b => k_mem); (case x => first | assumption | decide +kernel); (case y => first | assumption | decide +kernel); (case x2 => first | assumption | decide +kernel); (case y2 => first | assumption | decide +kernel); (case u => first | ktr_units | walk_at "my_units" | decide))))

theorem pA3 : parts.1.2.2.2.2.1 := by
  k_with_none
  conv => whnf
  k_fill
  unhygienic intros
  have hus2 : (items.toList.take spot).toArray.size ≤ 100 := by
    have := take_size KR (show spot ≤ (ks.map tbl).length by omega)
    omega
  by_cases hid : va = Str.ofString "IDENT"
  · subst hid
    repeat' (first | (exfalso; rename_i hz; with_reducible first | exact bne_absurd hz (by assumption) | exact beq_absurd hz (by assumption) | exact and_absurd hz (by assumption)) | ((fail_if_success (with_reducible show wpAny _ _ (call (Value.ref 223) _) _ _ _)); (first | (k_unfold; (try dsimp only)) | walk1 | (dsimp only; walk1) | (leave1; walk_say "STEP leave1"; try dsimp only))))
    obtain ⟨R2, N2, hX2, hRR, q4, q7, q9⟩ := regroup [(_, _), (_, _), (_, _)] (by k_asm) (by simp) hli o4 o7 o9
    simp only [List.forall_mem_cons, List.not_mem_nil, false_implies, implies_true, and_true] at hX2
    replace hTL := hRR _ hTL
    replace hta := hRR _ hta
    replace htd := hRR _ htd
    obtain ⟨x1, x2, x3⟩ := hX2
    (k_here; k_dflt ((show wpAny _ _ (call (Value.ref 223) [Value.ref _, _]) _ _ _); (refine' taken3I_ct ?B_taken3I_ct ?XB_taken3I_ct ?TB_taken3I_ct ?F_taken3I_ct ?X_taken3I_ct ?T_taken3I_ct ?k_taken3I_ct ?d_taken3I_ct ?u_taken3I_ct ?N_taken3I_ct ?i_taken3I_ct ?l_taken3I_ct ?a_taken3I_ct ?x_taken3I_ct ?s_taken3I_ct ?ta_taken3I_ct ?td_taken3I_ct ?la_taken3I_ct ?lb_taken3I_ct ?j0_taken3I_ct ?j1_taken3I_ct ?hid_taken3I_ct ?o1_taken3I_ct ?o2_taken3I_ct ?o3_taken3I_ct ?o4_taken3I_ct ?o5_taken3I_ct ?o6_taken3I_ct ?o7_taken3I_ct ?o8_taken3I_ct ?o9_taken3I_ct ?oa_taken3I_ct ?ob_taken3I_ct ?oc_taken3I_ct ?_; (case B_taken3I_ct => k_asm); (case F_taken3I_ct => k_asm); (case X_taken3I_ct => k_asm); (case T_taken3I_ct => k_asm); (case k_taken3I_ct => first | assumption | rfl); (case d_taken3I_ct => first | ktr_room | walk_at "my_depth"); (case u_taken3I_ct => first | ktr_units | walk_at "my_units"); (case N_taken3I_ct => k_asm); (case XB_taken3I_ct => k_asm); (case TB_taken3I_ct => k_asm); (case i_taken3I_ct => k_asm); (case l_taken3I_ct => k_mem); (case a_taken3I_ct => assumption); (case x_taken3I_ct => assumption); (case s_taken3I_ct => assumption); (case ta_taken3I_ct => assumption); (case td_taken3I_ct => assumption); (case la_taken3I_ct => assumption); (case lb_taken3I_ct => assumption); (case j0_taken3I_ct => omega); (case j1_taken3I_ct => omega); (case hid_taken3I_ct => first | assumption | rfl); (all_goals (try assumption)); intro io' pv' y' tt' h' tk' F' N' hi')); (try dsimp only))
    repeat' (first | (exfalso; rename_i hz; with_reducible first | exact bne_absurd hz (by assumption) | exact beq_absurd hz (by assumption) | exact and_absurd hz (by assumption)) | ((with_reducible show MidS _ _ _ _ _ _ _ _ _ _ _ _ _ _ _ _ _ _ _ _ _ _ _); exact mid_end_push hx (by k_asm) (by k_asm) (by assumption) (by k_mem) (by k_mem) (by k_mem) (by k_mem) (fun p hp => by simp only [List.mem_cons]; simp [hRR p hp]) at_false (by omega) (by with_unfolding_all rfl) (by with_unfolding_all rfl) (by with_unfolding_all rfl)) | (first | (k_unfold; (try dsimp only)) | walk1 | (dsimp only; walk1) | (leave1; walk_say "STEP leave1"; try dsimp only)))
  · by_cases hst : va = Str.ofString "DELIM" ∧ vb = Str.ofString "*"
    · obtain ⟨rfl, rfl⟩ := hst
      repeat' (first | (exfalso; rename_i hz; with_reducible first | exact bne_absurd hz (by assumption) | exact beq_absurd hz (by assumption) | exact and_absurd hz (by assumption)) | ((fail_if_success (with_reducible show wpAny _ _ (call (Value.ref 223) _) _ _ _)); (first | (k_unfold; (try dsimp only)) | walk1 | (dsimp only; walk1) | (leave1; walk_say "STEP leave1"; try dsimp only))))
      obtain ⟨R2, N2, hX2, hRR, q4, q7, q9⟩ := regroup [(_, _), (_, _), (_, _)] (by k_asm) (by simp) hli o4 o7 o9
      simp only [List.forall_mem_cons, List.not_mem_nil, false_implies, implies_true, and_true] at hX2
      replace hTL := hRR _ hTL
      replace hta := hRR _ hta
      replace htd := hRR _ htd
      obtain ⟨x1, x2, x3⟩ := hX2
      (k_here; k_dflt ((show wpAny _ _ (call (Value.ref 223) [Value.ref _, _]) _ _ _); (refine' taken3S_ct ?B_taken3S_ct ?XB_taken3S_ct ?TB_taken3S_ct ?F_taken3S_ct ?X_taken3S_ct ?T_taken3S_ct ?k_taken3S_ct ?d_taken3S_ct ?u_taken3S_ct ?N_taken3S_ct ?i_taken3S_ct ?l_taken3S_ct ?a_taken3S_ct ?x_taken3S_ct ?s_taken3S_ct ?ta_taken3S_ct ?td_taken3S_ct ?la_taken3S_ct ?lb_taken3S_ct ?j0_taken3S_ct ?j1_taken3S_ct ?hid_taken3S_ct ?hst_taken3S_ct ?o1_taken3S_ct ?o2_taken3S_ct ?o3_taken3S_ct ?o4_taken3S_ct ?o5_taken3S_ct ?o6_taken3S_ct ?o7_taken3S_ct ?o8_taken3S_ct ?o9_taken3S_ct ?oa_taken3S_ct ?ob_taken3S_ct ?oc_taken3S_ct ?_; (case B_taken3S_ct => k_asm); (case F_taken3S_ct => k_asm); (case X_taken3S_ct => k_asm); (case T_taken3S_ct => k_asm); (case k_taken3S_ct => first | assumption | rfl); (case d_taken3S_ct => first | ktr_room | walk_at "my_depth"); (case u_taken3S_ct => first | ktr_units | walk_at "my_units"); (case N_taken3S_ct => k_asm); (case XB_taken3S_ct => k_asm); (case TB_taken3S_ct => k_asm); (case i_taken3S_ct => k_asm); (case l_taken3S_ct => k_mem); (case a_taken3S_ct => assumption); (case x_taken3S_ct => assumption); (case s_taken3S_ct => assumption); (case ta_taken3S_ct => assumption); (case td_taken3S_ct => assumption); (case la_taken3S_ct => assumption); (case lb_taken3S_ct => assumption); (case j0_taken3S_ct => omega); (case j1_taken3S_ct => omega); (case hid_taken3S_ct => first | assumption | rfl); (case hst_taken3S_ct => first | assumption | rfl); (all_goals (try assumption)); intro io' pv' y' tt' h' tk' F' N' hi')); (try dsimp only))
      repeat' (first | (exfalso; rename_i hz; with_reducible first | exact bne_absurd hz (by assumption) | exact beq_absurd hz (by assumption) | exact and_absurd hz (by assumption)) | ((with_reducible show MidS _ _ _ _ _ _ _ _ _ _ _ _ _ _ _ _ _ _ _ _ _ _ _); exact mid_end_push hx (by k_asm) (by k_asm) (by assumption) (by k_mem) (by k_mem) (by k_mem) (by k_mem) (fun p hp => by simp only [List.mem_cons]; simp [hRR p hp]) at_false (by omega) (by with_unfolding_all rfl) (by with_unfolding_all rfl) (by with_unfolding_all rfl)) | (first | (k_unfold; (try dsimp only)) | walk1 | (dsimp only; walk1) | (leave1; walk_say "STEP leave1"; try dsimp only)))
    · skip
      repeat' (first | (exfalso; rename_i hz; with_reducible first | exact bne_absurd hz (by assumption) | exact beq_absurd hz (by assumption) | exact and_absurd hz (by assumption)) | ((fail_if_success (with_reducible show wpAny _ _ (call (Value.ref 223) _) _ _ _)); (first | (k_unfold; (try dsimp only)) | walk1 | (dsimp only; walk1) | (leave1; walk_say "STEP leave1"; try dsimp only))))
      obtain ⟨R2, N2, hX2, hRR, q4, q7, q9⟩ := regroup [(_, _), (_, _), (_, _)] (by k_asm) (by simp) hli o4 o7 o9
      simp only [List.forall_mem_cons, List.not_mem_nil, false_implies, implies_true, and_true] at hX2
      replace hTL := hRR _ hTL
      replace hta := hRR _ hta
      replace htd := hRR _ htd
      obtain ⟨x1, x2, x3⟩ := hX2
      (k_here; k_dflt ((show wpAny _ _ (call (Value.ref 223) [Value.ref _, _]) _ _ _); (refine' taken3R_ct ?B_taken3R_ct ?XB_taken3R_ct ?TB_taken3R_ct ?F_taken3R_ct ?X_taken3R_ct ?T_taken3R_ct ?k_taken3R_ct ?d_taken3R_ct ?u_taken3R_ct ?N_taken3R_ct ?i_taken3R_ct ?l_taken3R_ct ?a_taken3R_ct ?x_taken3R_ct ?s_taken3R_ct ?ta_taken3R_ct ?td_taken3R_ct ?la_taken3R_ct ?lb_taken3R_ct ?j0_taken3R_ct ?j1_taken3R_ct ?hid_taken3R_ct ?hst_taken3R_ct ?o1_taken3R_ct ?o2_taken3R_ct ?o3_taken3R_ct ?o4_taken3R_ct ?o5_taken3R_ct ?o6_taken3R_ct ?o7_taken3R_ct ?o8_taken3R_ct ?o9_taken3R_ct ?oa_taken3R_ct ?ob_taken3R_ct ?oc_taken3R_ct ?_; (case B_taken3R_ct => k_asm); (case F_taken3R_ct => k_asm); (case X_taken3R_ct => k_asm); (case T_taken3R_ct => k_asm); (case k_taken3R_ct => first | assumption | rfl); (case d_taken3R_ct => first | ktr_room | walk_at "my_depth"); (case u_taken3R_ct => first | ktr_units | walk_at "my_units"); (case N_taken3R_ct => k_asm); (case XB_taken3R_ct => k_asm); (case TB_taken3R_ct => k_asm); (case i_taken3R_ct => k_asm); (case l_taken3R_ct => k_mem); (case a_taken3R_ct => assumption); (case x_taken3R_ct => assumption); (case s_taken3R_ct => assumption); (case ta_taken3R_ct => assumption); (case td_taken3R_ct => assumption); (case la_taken3R_ct => assumption); (case lb_taken3R_ct => assumption); (case j0_taken3R_ct => omega); (case j1_taken3R_ct => omega); (case hid_taken3R_ct => first | assumption | rfl); (case hst_taken3R_ct => first | assumption | rfl); (all_goals (try assumption)); intro io' pv' y' tt' h' tk' F' N' hi')); (try dsimp only))
      repeat' (first | (exfalso; rename_i hz; with_reducible first | exact bne_absurd hz (by assumption) | exact beq_absurd hz (by assumption) | exact and_absurd hz (by assumption)) | ((with_reducible show MidS _ _ _ _ _ _ _ _ _ _ _ _ _ _ _ _ _ _ _ _ _ _ _); exact mid_end_push hx (by k_asm) (by k_asm) (by assumption) (by k_mem) (by k_mem) (by k_mem) (by k_mem) (fun p hp => by simp only [List.mem_cons]; simp [hRR p hp]) at_false (by omega) (by with_unfolding_all rfl) (by with_unfolding_all rfl) (by with_unfolding_all rfl)) | (first | (k_unfold; (try dsimp only)) | walk1 | (dsimp only; walk1) | (leave1; walk_say "STEP leave1"; try dsimp only)))
end Mine
end
section
theorem Mine.rst_pA4 : True := by (w_top off); first | (walk1; done) | trivial
set_option maxHeartbeats 100000000
open PySem PySem.W PyProof.Rows PySem.Calls
namespace Mine
local macro_rules | `(tactic| walk_at "eval Name") => `(tactic| (k_here; (fail_if_success k_inBlock); k_dflt (first | (refine' nameX_L ?F ?v ?_ ?a ?b ?d; (case b => kernel_rfl); (case d => kernel_rfl); (case F => k_asm); (case a => rfl); (case v => rfl); k_whole) | (refine' nameX_C ?N ?c ?m ?d ?_ ?a ?b ?e; (case b => kernel_rfl); (case e => kernel_rfl); (case a => rfl); (case N => k_asm); (case c => rfl); (case m => k_mem); (case d => k_asm); k_whole) | (refine' nameX_K ?F ?X ?T ?e ?_ ?a ?b ?d; (case b => kernel_rfl); (case d => kernel_rfl); (case F => k_asm); (case X => k_asm); (case T => k_asm); (case a => rfl); (case e => k_is); k_whole) | (refine' nameX_B ?F ?X ?T ?e ?v ?n ?_ ?a ?b ?d; (case b => kernel_rfl); (case d => kernel_rfl); (case F => k_asm); (case X => k_asm); (case T => k_asm); (case a => rfl); (case e => k_is); (case v => boot_fast); (case n => decide); k_whole))))
local macro_rules | `(tactic| walk_at "storeName") => `(tactic| (k_here; k_dflt (first | (refine' storeX_L ?F ?N ?_ ?a ?b; (case b => kernel_rfl); (case F => k_asm); (case N => k_asm); (case a => rfl); k_whole; intro h' F' N'; (try k_sweep)) | (refine' storeX_C ?F ?N ?c ?U ?d ?_ ?a ?b; (case b => kernel_rfl); (case a => rfl); (case F => k_asm); (case N => k_asm); (case c => rfl); (case U => k_updF); (case d => k_asm); k_whole; intro h' o' F' N' d'; (try dsimp only at N'); (try k_sweep)))))
local macro_rules | `(tactic| walk_at "spliced") => `(tactic| first | with_reducible refine args_cons ?_ (by with_unfolding_all rfl) | with_reducible refine args_nil ⟨Fr.keep (by assumption) _ _ (by assumption), ?_⟩ | (with_reducible refine args_nil ?_; try simp only [List.cons_append, List.nil_append]))
local macro_rules | `(tactic| k_mem) => `(tactic| assumption)
local macro_rules | `(tactic| k_all) => `(tactic| assumption)
local macro_rules | `(tactic| k_ne) => `(tactic| first | assumption | exact Ne.symm (by assumption))
local macro_rules | `(tactic| k_inst) => `(tactic| (refine' instAt_seq ?N ?h1 ?h2; (case N => k_asm); (case h1 => k_mem); (case h2 => k_mem)))
local macro_rules | `(tactic| walk_at "my_depth") => `(tactic| ((try simp only [depth_under_make, depth_under_kw, depth_in1, depth_deeper, depth_caller]); (try dsimp only [ktrTop]); omega))
local macro_rules | `(tactic| walk_at "my_units") => `(tactic| ((try simp only [units_under_make, units_in1, units_deeper, Around.mark_units, units_caller]); (try dsimp only [ktrTop]); omega))
local macro_rules | `(tactic| walk_at "my_enter") => `(tactic| (refine' code_def ?k1 ?k2 ?k3 ?k4 ?k5 ?kA ?kF ?kK ?k6 ?k7 ?k8 ?k9 ?kB ?_ ?c2 ?c3 ?c4 ?c5; (case kA => exact rfl); (case kF => exact rfl); (case kK => first | assumption | exact rfl); (case k1 => k_asm); (case k2 => k_asm); (case k3 => k_asm); (case k4 => k_asm); (case k5 => k_asm); (case k6 => k_is); (case k7 => k_is); (case k8 => ktr_room); (case k9 => exact BindsTo.of_eq rfl); (case c5 => decide); (case kB => exact locs rfl); (case c2 => exact rfl); (case c3 => exact rfl); (case c4 => exact rfl); k_whole; intro g' L' h' FG' F' N' B' X' T'; (try dsimp only); (try k_lift B'); (try k_fold)))

local macro_rules | `(tactic| walk_at "getAttr ref") => `(tactic| (k_here; (with_reducible show wpAny _ _ (getAttr (Value.ref _) (Str.ofString "type") _) _ _ _); k_dflt ((first | refine' type107_ct (cl := []) ?B ?F ?X ?T ?k ?d ?u ?N ?x ?y ?h ?_ | refine' type135_ct (cl := []) ?B ?F ?X ?T ?k ?d ?u ?N ?x ?y ?h ?_); (case B => k_asm); (case F => k_asm); (case X => k_asm); (case T => k_asm); (case k => first | assumption | rfl); (case d => walk_at "my_depth"); (case u => walk_at "my_units"); (case N => k_asm); (case x => k_mem); (case y => k_mem); (case h => first | assumption | rfl); intro h' tk' F' N')))
local macro_rules | `(tactic| walk_at "getAttr ref") => `(tactic| (k_here; (with_reducible show wpAny _ _ (getAttr (Value.ref _) (Str.ofString "value") _) _ _ _); k_dflt ((first | refine' value107_ct (cl := []) ?B ?F ?X ?T ?k ?d ?u ?N ?x ?y ?h ?_ | refine' value135_ct (cl := []) ?B ?F ?X ?T ?k ?d ?u ?N ?x ?y ?h ?_); (case B => k_asm); (case F => k_asm); (case X => k_asm); (case T => k_asm); (case k => first | assumption | rfl); (case d => walk_at "my_depth"); (case u => walk_at "my_units"); (case N => k_asm); (case x => k_mem); (case y => k_mem); (case h => first | assumption | rfl); intro h' tk' F' N')))
local macro_rules | `(tactic| walk_at "getAttr ref") => `(tactic| (k_here; (with_reducible show wpAny _ _ (getAttr (Value.ref _) (Str.ofString "pos") _) _ _ _); k_dflt (refine' tok_own ?F ?X ?I ?g ?h ?m ?hd ?a ?n ?l ?hh ?_; (case F => k_asm); (case X => k_asm); (case I => k_inst); (case g => k_is); (case h => k_is); (case m => k_is); (case hd => k_is); (case a => k_is); (case n => k_is); (case l => k_get); (case hh => k_handed); k_whole)))
local macro_rules | `(tactic| walk_at "ite") => `(tactic| (k_closed; first | (with_reducible refine my_iteT (by with_unfolding_all rfl) ?_) | (with_reducible refine my_iteF (by with_unfolding_all rfl) ?_)))

local macro_rules | `(tactic| walk_at "call ref") => `(tactic| (k_here; k_dflt ((show wpAny _ _ (call (Value.ref 107) [_, _, _]) _ _ _); (refine' token_ct (outer := []) ?B ?F ?X ?T ?k ?d ?u ?N ?_; (case B => k_asm); (case F => k_asm); (case X => k_asm); (case T => k_asm); (case k => first | assumption | rfl); (case d => first | ktr_room | walk_at "my_depth"); (case u => first | ktr_units | walk_at "my_units"); (case N => k_asm); intro x' xd' hp' tp' h' tk' F' N' n1 n2 n3)); (try dsimp only)))
local macro_rules | `(tactic| walk_at "call ref") => `(tactic| (k_here; k_dflt ((show wpAny _ _ (call (Value.ref 135) [_]) _ _ _); (refine' eof_ct (outer := []) ?B ?F ?X ?T ?k ?d ?u ?N ?_; (case B => k_asm); (case F => k_asm); (case X => k_asm); (case T => k_asm); (case k => first | assumption | rfl); (case d => first | ktr_room | walk_at "my_depth"); (case u => first | ktr_units | walk_at "my_units"); (case N => k_asm); intro x' xd' hp' te' tp' h' tk' F' N' n1 n2 n3)); (try dsimp only)))
local macro_rules | `(tactic| walk_at "call builtin:len") => `(tactic| (k_here; k_dflt (refine' len_N ?N ?m ?c ?d ?k ?s ?_; (case N => k_asm); (case m => k_mem); (case c => rfl); (case d => rfl); (case k => exact refs_size); (case s => omega))))
local macro_rules | `(tactic| walk_at "binaryOp Add ref ref") => `(tactic| (k_here; k_dflt (refine' add_N ?F ?N ?l ?b ?z ?_; (case F => k_asm); (case N => k_asm); (case l => k_mem); (case b => k_mem); (case z => (simp only [refs, List.length_map, List.length_cons, List.length_nil]; omega))); intro x' h' F' N' n1))
local macro_rules | `(tactic| walk_at "call builtin:iter") => `(tactic| (k_here; (with_reducible show wpAny _ _ (call (Value.builtin "iter") [Value.ref _]) _ _ _); k_dflt ((refine' iter_li ?F ?N ?p ?c ?d ?_; (case F => k_asm); (case N => k_asm); (case p => k_mem); (case c => rfl); (case d => rfl); intro I' h' o' F' N' l1 hi'; (try k_lt l1)))))
local macro_rules | `(tactic| walk_at "subscriptTail") => `(tactic| (k_here; (with_reducible show wpAny _ _ (subscriptTail _ _ (Value.ref _) (Value.int (Nat.cast _) _)) _ _ _); k_dflt (refine' item_N ?N ?m ?k ?x ?_ ?s; (case N => k_asm); (case m => k_mem); (case k => omega); (case x => assumption); (case s => with_unfolding_all rfl))))
local macro_rules | `(tactic| walk_at "subscriptTail Name Name ref int") => `(tactic| (k_here; (with_reducible show wpAny _ _ (subscriptTail _ _ (Value.ref _) (Value.int (Nat.cast _) _)) _ _ _); k_dflt (refine' item_N ?N ?m ?k ?x ?_ ?s; (case N => k_asm); (case m => k_mem); (case k => omega); (case x => assumption); (case s => with_unfolding_all rfl))))
local macro_rules | `(tactic| walk_at "subscriptTail") => `(tactic| (k_here; (with_reducible show wpAny _ _ (subscriptTail _ _ (Value.ref _) (Value.int 0 _)) _ _ _); k_dflt (refine' tup0 ?g ?_ ?s; (case g => first | exact Fr.keep (by k_asm) _ _ (by assumption) | exact news_get (by k_asm) (by assumption) | exact news_get (by k_asm) (by k_mem)); (case s => with_unfolding_all rfl))))
local macro_rules | `(tactic| walk_at "subscriptTail Name Constant ref int") => `(tactic| (k_here; (with_reducible show wpAny _ _ (subscriptTail _ _ (Value.ref _) (Value.int 0 _)) _ _ _); k_dflt (refine' tup0 ?g ?_ ?s; (case g => first | exact Fr.keep (by k_asm) _ _ (by assumption) | exact news_get (by k_asm) (by assumption) | exact news_get (by k_asm) (by k_mem)); (case s => with_unfolding_all rfl))))
local macro_rules | `(tactic| walk_at "subscriptTail Subscript Constant ref int") => `(tactic| (k_here; (with_reducible show wpAny _ _ (subscriptTail _ _ (Value.ref _) (Value.int 0 _)) _ _ _); k_dflt (refine' tup0 ?g ?_ ?s; (case g => first | exact Fr.keep (by k_asm) _ _ (by assumption) | exact news_get (by k_asm) (by assumption) | exact news_get (by k_asm) (by k_mem)); (case s => with_unfolding_all rfl))))
local macro_rules | `(tactic| walk_at "subscriptTail") => `(tactic| (k_here; (with_reducible show wpAny _ _ (subscriptTail _ _ (Value.ref _) (Value.int 1 _)) _ _ _); k_dflt (refine' tup1 ?g ?_ ?s; (case g => first | exact Fr.keep (by k_asm) _ _ (by assumption) | exact news_get (by k_asm) (by assumption) | exact news_get (by k_asm) (by k_mem)); (case s => with_unfolding_all rfl))))
local macro_rules | `(tactic| walk_at "subscriptTail Name Constant ref int") => `(tactic| (k_here; (with_reducible show wpAny _ _ (subscriptTail _ _ (Value.ref _) (Value.int 1 _)) _ _ _); k_dflt (refine' tup1 ?g ?_ ?s; (case g => first | exact Fr.keep (by k_asm) _ _ (by assumption) | exact news_get (by k_asm) (by assumption) | exact news_get (by k_asm) (by k_mem)); (case s => with_unfolding_all rfl))))
local macro_rules | `(tactic| walk_at "call ref") => `(tactic| (k_here; k_dflt ((show wpAny _ _ (call (Value.ref 174) [Value.ref _]) _ _ _); (refine' peek_ct (outer := []) ?B ?F ?X ?T ?k ?d ?u ?N ?i ?l ?a ?x ?o1 ?o2 ?o3 ?o4 ?o5 ?o6 ?o7 ?o8 ?o9 ?oa ?ob ?oc ?_; (case B => k_asm); (case F => k_asm); (case X => k_asm); (case T => k_asm); (case k => first | assumption | rfl); (case d => first | ktr_room | walk_at "my_depth"); (case u => first | ktr_units | walk_at "my_units"); (case N => k_asm); (case i => k_asm); (case l => k_mem); (case a => first | assumption | exact at_true (by assumption)); (case x => assumption); (case o1 => assumption); (case o2 => assumption); (case o3 => assumption); (case o4 => assumption); (case o5 => assumption); (case o6 => assumption); (case o7 => assumption); (case o8 => assumption); (case o9 => assumption); (case oa => assumption); (case ob => assumption); (case oc => assumption); intro io' h' tk' F' N' hi')); (try dsimp only)))
local macro_rules | `(tactic| walk_at "getAttr ref") => `(tactic| (k_here; (with_reducible show wpAny _ _ (getAttr (Value.ref _) (Str.ofString "type") _) _ _ _); k_dflt ((refine' type107_ct ?B ?F ?X ?T ?k ?d ?u ?N ?x ?y ?h ?_); (case B => k_asm); (case F => k_asm); (case X => k_asm); (case T => k_asm); (case k => first | assumption | rfl); (case d => first | ktr_room | walk_at "my_depth"); (case u => first | ktr_units | walk_at "my_units"); (case N => k_asm); (case x => k_mem); (case y => k_mem); (case h => first | assumption | rfl); intro h' tk' F' N')))
local macro_rules | `(tactic| walk_at "getAttr ref") => `(tactic| (k_here; (with_reducible show wpAny _ _ (getAttr (Value.ref _) (Str.ofString "type") _) _ _ _); k_dflt ((refine' type135_ct ?B ?F ?X ?T ?k ?d ?u ?N ?x ?y ?h ?_); (case B => k_asm); (case F => k_asm); (case X => k_asm); (case T => k_asm); (case k => first | assumption | rfl); (case d => first | ktr_room | walk_at "my_depth"); (case u => first | ktr_units | walk_at "my_units"); (case N => k_asm); (case x => k_mem); (case y => k_mem); (case h => first | assumption | rfl); intro h' tk' F' N')))
local macro_rules | `(tactic| walk_at "getAttr ref") => `(tactic| (k_here; (with_reducible show wpAny _ _ (getAttr (Value.ref _) (Str.ofString "value") _) _ _ _); k_dflt ((refine' value107_ct ?B ?F ?X ?T ?k ?d ?u ?N ?x ?y ?h ?_); (case B => k_asm); (case F => k_asm); (case X => k_asm); (case T => k_asm); (case k => first | assumption | rfl); (case d => first | ktr_room | walk_at "my_depth"); (case u => first | ktr_units | walk_at "my_units"); (case N => k_asm); (case x => k_mem); (case y => k_mem); (case h => first | assumption | rfl); intro h' tk' F' N')))
local macro_rules | `(tactic| walk_at "getAttr ref") => `(tactic| (k_here; (with_reducible show wpAny _ _ (getAttr (Value.ref _) (Str.ofString "value") _) _ _ _); k_dflt ((refine' value135_ct ?B ?F ?X ?T ?k ?d ?u ?N ?x ?y ?h ?_); (case B => k_asm); (case F => k_asm); (case X => k_asm); (case T => k_asm); (case k => first | assumption | rfl); (case d => first | ktr_room | walk_at "my_depth"); (case u => first | ktr_units | walk_at "my_units"); (case N => k_asm); (case x => k_mem); (case y => k_mem); (case h => first | assumption | rfl); intro h' tk' F' N')))

local macro_rules | `(tactic| walk_at "compareOp NotEq ref ref") => `(tactic| (k_here; k_dflt (refine' ne_tup3 ?N ?a ?b ?x ?y ?u ?_; (case N => k_asm); (case a => k_mem); (case b => k_mem); (case x => first | assumption | decide +kernel); (case y => first | assumption | decide +kernel); (case u => first | ktr_units | walk_at "my_units" | decide))))
local macro_rules | `(tactic| walk_at "compareOp NotEq ref ref") => `(tactic| (k_here; k_dflt (refine' ne_tup3N ?N ?a ?b ?x ?u ?_; (case N => k_asm); (case a => k_mem); (case b => k_mem); (case x => decide +kernel); (case u => first | ktr_units | walk_at "my_units" | decide))))
local macro_rules | `(tactic| walk_at "compareOp NotEq ref ref") => `(tactic| (k_here; k_dflt (refine' ne_pair ?N ?a ?b ?x ?y ?u ?_; (case N => k_asm); (case a => k_mem); (case b => first | exact news_get (by k_asm) (by k_mem) | exact Fr.keep (by k_asm) _ _ (by assumption) | exact news_get (by k_asm) (by assumption)); (case x => first | assumption | decide +kernel); (case y => first | assumption | decide +kernel); (case u => first | ktr_units | walk_at "my_units" | decide))))
local macro_rules | `(tactic| walk_at "compareOp NotEq ref ref") => `(tactic| (k_here; k_dflt (refine' ne_pairN ?N ?a ?b ?x ?u ?_; (case N => k_asm); (case a => k_mem); (case b => first | exact news_get (by k_asm) (by k_mem) | exact Fr.keep (by k_asm) _ _ (by assumption) | exact news_get (by k_asm) (by assumption)); (case x => decide +kernel); (case u => first | ktr_units | walk_at "my_units" | decide))))

local macro_rules | `(tactic| walk_at "call type:tuple") => `(tactic| (k_here; (with_reducible show wpAny _ _ (call (Value.type "tuple") [Value.ref _]) _ _ _); k_dflt ((refine' tup107_N ?h ?d ?f ?u ?F ?X ?N ?T ?_); (case h => rfl); (case d => walk_at "my_depth"); (case f => rfl); (case u => first | ktr_units | walk_at "my_units" | decide); (case F => k_asm); (case X => k_asm); (case N => k_asm); (case T => k_mem); intro y' h' tk' F' N' n1)))
local macro_rules | `(tactic| walk_at "call type:tuple") => `(tactic| (k_here; (with_reducible show wpAny _ _ (call (Value.type "tuple") [Value.ref _]) _ _ _); k_dflt ((refine' tup135_N ?h ?d ?f ?u ?F ?X ?N ?T ?_); (case h => rfl); (case d => walk_at "my_depth"); (case f => rfl); (case u => first | ktr_units | walk_at "my_units" | decide); (case F => k_asm); (case X => k_asm); (case N => k_asm); (case T => k_mem); intro y' h' tk' F' N' n1)))

local macro_rules | `(tactic| walk_at "subscriptTail") => `(tactic| (k_here; (with_reducible show wpAny _ _ (subscriptTail _ (PySem.Expr.Slice _ _ _ _) (Value.ref _) (Value.ref _)) _ _ _); k_dflt (refine' slice_N ?F ?N ?m ?k ?z ?_ ?s ?t; (case F => k_asm); (case N => k_asm); (case m => k_mem); (case k => assumption); (case z => assumption); (case s => with_unfolding_all rfl); (case t => (intro _; with_unfolding_all rfl))); intro D' h' F' N' l1))


theorem pA4 : parts.1.2.2.2.2.2.1 := by
  k_with_none
  conv => whnf
  k_fill
  unhygienic intros
  repeat ((fail_if_success (with_reducible show wpAny _ _ (call (Value.ref 195) _) _ _ _)); (first | (k_unfold; (try dsimp only)) | walk1 | (dsimp only; walk1) | (leave1; walk_say "STEP leave1"; try dsimp only)))
  (k_here; k_dflt (refine' skip_ct ?B_sA ?XB_sA ?TB_sA ?F_sA ?X_sA ?T_sA ?k_sA ?d_sA ?u_sA ?N_sA ?i_sA ?l_sA ?a_sA ?K_sA ?sp_sA ?us_sA ?o1_sA ?o2_sA ?o3_sA ?o4_sA ?o5_sA ?o6_sA ?o7_sA ?o8_sA ?o9_sA ?oa_sA ?ob_sA ?oc_sA ?_; (case B_sA => k_asm); (case F_sA => k_asm); (case X_sA => k_asm); (case T_sA => k_asm); (case k_sA => first | assumption | rfl); (case d_sA => first | ktr_room | walk_at "my_depth"); (case u_sA => first | ktr_units | walk_at "my_units"); (case N_sA => k_asm); (case XB_sA => k_asm); (case TB_sA => k_asm); (case i_sA => exact hli); (case l_sA => exact hTL); (case a_sA => exact hat); (case K_sA => exact KR); (case sp_sA => omega); (case us_sA => rfl); (all_goals (try assumption))); intro io4 pv4 us4 un4 h4 tk4 F4 N4 hi4 hat4 hus4; subst hus4; (try dsimp only))
  repeat ((fail_if_success (with_reducible show wpAny _ _ (exec (Stmt.While _ _ _ _) _) _ _ _)); (first | (k_unfold; (try dsimp only)) | walk1 | (dsimp only; walk1) | (leave1; walk_say "STEP leave1"; try dsimp only)))
  refine whl_start 0 ?_
  refine' whl_W (by k_asm) (by k_asm) S AM (ks.map tbl) ks.length spot ?hE_sA (by omega) (by with_unfolding_all rfl) (by with_unfolding_all rfl) (by with_unfolding_all rfl) ?turn_sA
  case hE_sA => first | passes_own | with_unfolding_all passes_own
  case turn_sA =>
  intro sp tS hS tkS mS FS NS hspS hskS
  rcases Nat.lt_or_ge sp ks.length with hltS | hgeS
  · obtain ⟨kS, hkS6, hkkS, hamS, hmkS⟩ := am_at (D := De) hltS hks
    obtain ⟨ts1, ts2, tsn, hdueS⟩ := tbl_inF FS (by assumption) hkS6
    obtain ⟨wa, wb, hww⟩ : ∃ wa wb, tbl kS = (wa, wb) := ⟨_, _, rfl⟩
    rw [hww] at hmkS hdueS
    dsimp only at hmkS hdueS
    repeat' ((fail_if_success (with_reducible show WhlIf _ _ _)); (first | (k_unfold; (try dsimp only)) | walk1 | (dsimp only; walk1) | (leave1; walk_say "STEP leave1"; try dsimp only)))
    cases hwS : wa == Str.ofString "S" with
    | true =>
      refine WhlIf.yes rfl ?_
      repeat' (first | ((with_reducible show WhE _ _ _ _ _ _ _ _ _ _ _); exact whE_next (by k_asm) (by k_asm) hltS hmkS hwS hskS (by with_unfolding_all rfl) (by with_unfolding_all rfl) (by with_unfolding_all rfl)) | (first | (k_unfold; (try dsimp only)) | walk1 | (dsimp only; walk1) | (leave1; walk_say "STEP leave1"; try dsimp only)))
    | false =>
      refine WhlIf.no rfl ?_
      have e4 : skipTo (ks.map tbl) spot = sp := hskS.symm.trans (skipTo_other hmkS hwS)
      rw [e4] at NS hi4 hat4
      repeat' (first | ((with_reducible show MidS _ _ _ _ _ _ _ _ _ _ _ _ _ _ _ _ _ _ _ _ _ _ _); exact mid_end (by k_asm) (by k_asm) hi4 (by k_mem) (by k_mem) (by k_mem) (by k_mem) (fun p hp => by simp only [List.mem_cons]; simp [hp]) hat4 hspS (by with_unfolding_all rfl) (by with_unfolding_all rfl) (by with_unfolding_all rfl)) | (first | (k_unfold; (try dsimp only)) | walk1 | (dsimp only; walk1) | (leave1; walk_say "STEP leave1"; try dsimp only)))
  · obtain rfl : sp = ks.length := Nat.le_antisymm hspS hgeS
    have hamS := am_endR (ks := ks) hEO
    have e4 : skipTo (ks.map tbl) spot = ks.length := hskS.symm.trans (skipTo_end (by omega))
    rw [e4] at NS hi4 hat4
    repeat' (first | ((with_reducible show MidS _ _ _ _ _ _ _ _ _ _ _ _ _ _ _ _ _ _ _ _ _ _ _); exact mid_end (by k_asm) (by k_asm) hi4 (by k_mem) (by k_mem) (by k_mem) (by k_mem) (fun p hp => by simp only [List.mem_cons]; simp [hp]) hat4 hspS (by with_unfolding_all rfl) (by with_unfolding_all rfl) (by with_unfolding_all rfl)) | (first | (k_unfold; (try dsimp only)) | walk1 | (dsimp only; walk1) | (leave1; walk_say "STEP leave1"; try dsimp only)))
end Mine
end
section
theorem Mine.rst_pB0 : True := by (w_top off); first | (walk1; done) | trivial
set_option maxHeartbeats 100000000
open PySem PySem.W PyProof.Rows PySem.Calls
namespace Mine
local macro_rules | `(tactic| walk_at "eval Name") => `(tactic| (k_here; (fail_if_success k_inBlock); k_dflt (first | (refine' nameX_L ?F ?v ?_ ?a ?b ?d; (case b => kernel_rfl); (case d => kernel_rfl); (case F => k_asm); (case a => rfl); (case v => rfl); k_whole) | (refine' nameX_C ?N ?c ?m ?d ?_ ?a ?b ?e; (case b => kernel_rfl); (case e => kernel_rfl); (case a => rfl); (case N => k_asm); (case c => rfl); (case m => k_mem); (case d => k_asm); k_whole) | (refine' nameX_K ?F ?X ?T ?e ?_ ?a ?b ?d; (case b => kernel_rfl); (case d => kernel_rfl); (case F => k_asm); (case X => k_asm); (case T => k_asm); (case a => rfl); (case e => k_is); k_whole) | (refine' nameX_B ?F ?X ?T ?e ?v ?n ?_ ?a ?b ?d; (case b => kernel_rfl); (case d => kernel_rfl); (case F => k_asm); (case X => k_asm); (case T => k_asm); (case a => rfl); (case e => k_is); (case v => boot_fast); (case n => decide); k_whole))))
local macro_rules | `(tactic| walk_at "storeName") => `(tactic| (k_here; k_dflt (first | (refine' storeX_L ?F ?N ?_ ?a ?b; (case b => kernel_rfl); (case F => k_asm); (case N => k_asm); (case a => rfl); k_whole; intro h' F' N'; (try k_sweep)) | (refine' storeX_C ?F ?N ?c ?U ?d ?_ ?a ?b; (case b => kernel_rfl); (case a => rfl); (case F => k_asm); (case N => k_asm); (case c => rfl); (case U => k_updF); (case d => k_asm); k_whole; intro h' o' F' N' d'; (try dsimp only at N'); (try k_sweep)))))
local macro_rules | `(tactic| walk_at "spliced") => `(tactic| first | with_reducible refine args_cons ?_ (by with_unfolding_all rfl) | with_reducible refine args_nil ⟨Fr.keep (by assumption) _ _ (by assumption), ?_⟩ | (with_reducible refine args_nil ?_; try simp only [List.cons_append, List.nil_append]))
local macro_rules | `(tactic| k_mem) => `(tactic| assumption)
local macro_rules | `(tactic| k_all) => `(tactic| assumption)
local macro_rules | `(tactic| k_ne) => `(tactic| first | assumption | exact Ne.symm (by assumption))
local macro_rules | `(tactic| k_inst) => `(tactic| (refine' instAt_seq ?N ?h1 ?h2; (case N => k_asm); (case h1 => k_mem); (case h2 => k_mem)))
local macro_rules | `(tactic| walk_at "my_depth") => `(tactic| ((try simp only [depth_under_make, depth_under_kw, depth_in1, depth_deeper, depth_caller]); (try dsimp only [ktrTop]); omega))
local macro_rules | `(tactic| walk_at "my_units") => `(tactic| ((try simp only [units_under_make, units_in1, units_deeper, Around.mark_units, units_caller]); (try dsimp only [ktrTop]); omega))
local macro_rules | `(tactic| walk_at "my_enter") => `(tactic| (refine' code_def ?k1 ?k2 ?k3 ?k4 ?k5 ?kA ?kF ?kK ?k6 ?k7 ?k8 ?k9 ?kB ?_ ?c2 ?c3 ?c4 ?c5; (case kA => exact rfl); (case kF => exact rfl); (case kK => first | assumption | exact rfl); (case k1 => k_asm); (case k2 => k_asm); (case k3 => k_asm); (case k4 => k_asm); (case k5 => k_asm); (case k6 => k_is); (case k7 => k_is); (case k8 => ktr_room); (case k9 => exact BindsTo.of_eq rfl); (case c5 => decide); (case kB => exact locs rfl); (case c2 => exact rfl); (case c3 => exact rfl); (case c4 => exact rfl); k_whole; intro g' L' h' FG' F' N' B' X' T'; (try dsimp only); (try k_lift B'); (try k_fold)))

local macro_rules | `(tactic| walk_at "getAttr ref") => `(tactic| (k_here; (with_reducible show wpAny _ _ (getAttr (Value.ref _) (Str.ofString "type") _) _ _ _); k_dflt ((first | refine' type107_ct (cl := []) ?B ?F ?X ?T ?k ?d ?u ?N ?x ?y ?h ?_ | refine' type135_ct (cl := []) ?B ?F ?X ?T ?k ?d ?u ?N ?x ?y ?h ?_); (case B => k_asm); (case F => k_asm); (case X => k_asm); (case T => k_asm); (case k => first | assumption | rfl); (case d => walk_at "my_depth"); (case u => walk_at "my_units"); (case N => k_asm); (case x => k_mem); (case y => k_mem); (case h => first | assumption | rfl); intro h' tk' F' N')))
local macro_rules | `(tactic| walk_at "getAttr ref") => `(tactic| (k_here; (with_reducible show wpAny _ _ (getAttr (Value.ref _) (Str.ofString "value") _) _ _ _); k_dflt ((first | refine' value107_ct (cl := []) ?B ?F ?X ?T ?k ?d ?u ?N ?x ?y ?h ?_ | refine' value135_ct (cl := []) ?B ?F ?X ?T ?k ?d ?u ?N ?x ?y ?h ?_); (case B => k_asm); (case F => k_asm); (case X => k_asm); (case T => k_asm); (case k => first | assumption | rfl); (case d => walk_at "my_depth"); (case u => walk_at "my_units"); (case N => k_asm); (case x => k_mem); (case y => k_mem); (case h => first | assumption | rfl); intro h' tk' F' N')))
local macro_rules | `(tactic| walk_at "getAttr ref") => `(tactic| (k_here; (with_reducible show wpAny _ _ (getAttr (Value.ref _) (Str.ofString "pos") _) _ _ _); k_dflt (refine' tok_own ?F ?X ?I ?g ?h ?m ?hd ?a ?n ?l ?hh ?_; (case F => k_asm); (case X => k_asm); (case I => k_inst); (case g => k_is); (case h => k_is); (case m => k_is); (case hd => k_is); (case a => k_is); (case n => k_is); (case l => k_get); (case hh => k_handed); k_whole)))
local macro_rules | `(tactic| walk_at "ite") => `(tactic| (k_closed; first | (with_reducible refine my_iteT (by with_unfolding_all rfl) ?_) | (with_reducible refine my_iteF (by with_unfolding_all rfl) ?_)))

local macro_rules | `(tactic| walk_at "call ref") => `(tactic| (k_here; k_dflt ((show wpAny _ _ (call (Value.ref 107) [_, _, _]) _ _ _); (refine' token_ct (outer := []) ?B ?F ?X ?T ?k ?d ?u ?N ?_; (case B => k_asm); (case F => k_asm); (case X => k_asm); (case T => k_asm); (case k => first | assumption | rfl); (case d => first | ktr_room | walk_at "my_depth"); (case u => first | ktr_units | walk_at "my_units"); (case N => k_asm); intro x' xd' hp' tp' h' tk' F' N' n1 n2 n3)); (try dsimp only)))
local macro_rules | `(tactic| walk_at "call ref") => `(tactic| (k_here; k_dflt ((show wpAny _ _ (call (Value.ref 135) [_]) _ _ _); (refine' eof_ct (outer := []) ?B ?F ?X ?T ?k ?d ?u ?N ?_; (case B => k_asm); (case F => k_asm); (case X => k_asm); (case T => k_asm); (case k => first | assumption | rfl); (case d => first | ktr_room | walk_at "my_depth"); (case u => first | ktr_units | walk_at "my_units"); (case N => k_asm); intro x' xd' hp' te' tp' h' tk' F' N' n1 n2 n3)); (try dsimp only)))
local macro_rules | `(tactic| walk_at "call builtin:len") => `(tactic| (k_here; k_dflt (refine' len_N ?N ?m ?c ?d ?k ?s ?_; (case N => k_asm); (case m => k_mem); (case c => rfl); (case d => rfl); (case k => exact refs_size); (case s => omega))))
local macro_rules | `(tactic| walk_at "binaryOp Add ref ref") => `(tactic| (k_here; k_dflt (refine' add_N ?F ?N ?l ?b ?z ?_; (case F => k_asm); (case N => k_asm); (case l => k_mem); (case b => k_mem); (case z => (simp only [refs, List.length_map, List.length_cons, List.length_nil]; omega))); intro x' h' F' N' n1))
local macro_rules | `(tactic| walk_at "call builtin:iter") => `(tactic| (k_here; (with_reducible show wpAny _ _ (call (Value.builtin "iter") [Value.ref _]) _ _ _); k_dflt ((refine' iter_li ?F ?N ?p ?c ?d ?_; (case F => k_asm); (case N => k_asm); (case p => k_mem); (case c => rfl); (case d => rfl); intro I' h' o' F' N' l1 hi'; (try k_lt l1)))))
local macro_rules | `(tactic| walk_at "subscriptTail") => `(tactic| (k_here; (with_reducible show wpAny _ _ (subscriptTail _ _ (Value.ref _) (Value.int (Nat.cast _) _)) _ _ _); k_dflt (refine' item_N ?N ?m ?k ?x ?_ ?s; (case N => k_asm); (case m => k_mem); (case k => omega); (case x => assumption); (case s => with_unfolding_all rfl))))
local macro_rules | `(tactic| walk_at "subscriptTail Name Name ref int") => `(tactic| (k_here; (with_reducible show wpAny _ _ (subscriptTail _ _ (Value.ref _) (Value.int (Nat.cast _) _)) _ _ _); k_dflt (refine' item_N ?N ?m ?k ?x ?_ ?s; (case N => k_asm); (case m => k_mem); (case k => omega); (case x => assumption); (case s => with_unfolding_all rfl))))
local macro_rules | `(tactic| walk_at "subscriptTail") => `(tactic| (k_here; (with_reducible show wpAny _ _ (subscriptTail _ _ (Value.ref _) (Value.int 0 _)) _ _ _); k_dflt (refine' tup0 ?g ?_ ?s; (case g => first | exact Fr.keep (by k_asm) _ _ (by assumption) | exact news_get (by k_asm) (by assumption) | exact news_get (by k_asm) (by k_mem)); (case s => with_unfolding_all rfl))))
local macro_rules | `(tactic| walk_at "subscriptTail Name Constant ref int") => `(tactic| (k_here; (with_reducible show wpAny _ _ (subscriptTail _ _ (Value.ref _) (Value.int 0 _)) _ _ _); k_dflt (refine' tup0 ?g ?_ ?s; (case g => first | exact Fr.keep (by k_asm) _ _ (by assumption) | exact news_get (by k_asm) (by assumption) | exact news_get (by k_asm) (by k_mem)); (case s => with_unfolding_all rfl))))
local macro_rules | `(tactic| walk_at "subscriptTail Subscript Constant ref int") => `(tactic| (k_here; (with_reducible show wpAny _ _ (subscriptTail _ _ (Value.ref _) (Value.int 0 _)) _ _ _); k_dflt (refine' tup0 ?g ?_ ?s; (case g => first | exact Fr.keep (by k_asm) _ _ (by assumption) | exact news_get (by k_asm) (by assumption) | exact news_get (by k_asm) (by k_mem)); (case s => with_unfolding_all rfl))))
local macro_rules | `(tactic| walk_at "subscriptTail") => `(tactic| (k_here; (with_reducible show wpAny _ _ (subscriptTail _ _ (Value.ref _) (Value.int 1 _)) _ _ _); k_dflt (refine' tup1 ?g ?_ ?s; (case g => first | exact Fr.keep (by k_asm) _ _ (by assumption) | exact news_get (by k_asm) (by assumption) | exact news_get (by k_asm) (by k_mem)); (case s => with_unfolding_all rfl))))
local macro_rules | `(tactic| walk_at "subscriptTail Name Constant ref int") => `(tactic| (k_here; (with_reducible show wpAny _ _ (subscriptTail _ _ (Value.ref _) (Value.int 1 _)) _ _ _); k_dflt (refine' tup1 ?g ?_ ?s; (case g => first | exact Fr.keep (by k_asm) _ _ (by assumption) | exact news_get (by k_asm) (by assumption) | exact news_get (by k_asm) (by k_mem)); (case s => with_unfolding_all rfl))))
local macro_rules | `(tactic| walk_at "call ref") => `(tactic| (k_here; k_dflt ((show wpAny _ _ (call (Value.ref 174) [Value.ref _]) _ _ _); (refine' peek_ct (outer := []) ?B ?F ?X ?T ?k ?d ?u ?N ?i ?l ?a ?x ?o1 ?o2 ?o3 ?o4 ?o5 ?o6 ?o7 ?o8 ?o9 ?oa ?ob ?oc ?_; (case B => k_asm); (case F => k_asm); (case X => k_asm); (case T => k_asm); (case k => first | assumption | rfl); (case d => first | ktr_room | walk_at "my_depth"); (case u => first | ktr_units | walk_at "my_units"); (case N => k_asm); (case i => k_asm); (case l => k_mem); (case a => first | assumption | exact at_true (by assumption)); (case x => assumption); (case o1 => assumption); (case o2 => assumption); (case o3 => assumption); (case o4 => assumption); (case o5 => assumption); (case o6 => assumption); (case o7 => assumption); (case o8 => assumption); (case o9 => assumption); (case oa => assumption); (case ob => assumption); (case oc => assumption); intro io' h' tk' F' N' hi')); (try dsimp only)))
local macro_rules | `(tactic| walk_at "getAttr ref") => `(tactic| (k_here; (with_reducible show wpAny _ _ (getAttr (Value.ref _) (Str.ofString "type") _) _ _ _); k_dflt ((refine' type107_ct ?B ?F ?X ?T ?k ?d ?u ?N ?x ?y ?h ?_); (case B => k_asm); (case F => k_asm); (case X => k_asm); (case T => k_asm); (case k => first | assumption | rfl); (case d => first | ktr_room | walk_at "my_depth"); (case u => first | ktr_units | walk_at "my_units"); (case N => k_asm); (case x => k_mem); (case y => k_mem); (case h => first | assumption | rfl); intro h' tk' F' N')))
local macro_rules | `(tactic| walk_at "getAttr ref") => `(tactic| (k_here; (with_reducible show wpAny _ _ (getAttr (Value.ref _) (Str.ofString "type") _) _ _ _); k_dflt ((refine' type135_ct ?B ?F ?X ?T ?k ?d ?u ?N ?x ?y ?h ?_); (case B => k_asm); (case F => k_asm); (case X => k_asm); (case T => k_asm); (case k => first | assumption | rfl); (case d => first | ktr_room | walk_at "my_depth"); (case u => first | ktr_units | walk_at "my_units"); (case N => k_asm); (case x => k_mem); (case y => k_mem); (case h => first | assumption | rfl); intro h' tk' F' N')))
local macro_rules | `(tactic| walk_at "getAttr ref") => `(tactic| (k_here; (with_reducible show wpAny _ _ (getAttr (Value.ref _) (Str.ofString "value") _) _ _ _); k_dflt ((refine' value107_ct ?B ?F ?X ?T ?k ?d ?u ?N ?x ?y ?h ?_); (case B => k_asm); (case F => k_asm); (case X => k_asm); (case T => k_asm); (case k => first | assumption | rfl); (case d => first | ktr_room | walk_at "my_depth"); (case u => first | ktr_units | walk_at "my_units"); (case N => k_asm); (case x => k_mem); (case y => k_mem); (case h => first | assumption | rfl); intro h' tk' F' N')))
local macro_rules | `(tactic| walk_at "getAttr ref") => `(tactic| (k_here; (with_reducible show wpAny _ _ (getAttr (Value.ref _) (Str.ofString "value") _) _ _ _); k_dflt ((refine' value135_ct ?B ?F ?X ?T ?k ?d ?u ?N ?x ?y ?h ?_); (case B => k_asm); (case F => k_asm); (case X => k_asm); (case T => k_asm); (case k => first | assumption | rfl); (case d => first | ktr_room | walk_at "my_depth"); (case u => first | ktr_units | walk_at "my_units"); (case N => k_asm); (case x => k_mem); (case y => k_mem); (case h => first | assumption | rfl); intro h' tk' F' N')))

local macro_rules | `(tactic| walk_at "compareOp NotEq ref ref") => `(tactic| (k_here; k_dflt (refine' ne_tup3 ?N ?a ?b ?x ?y ?u ?_; (case N => k_asm); (case a => k_mem); (case b => k_mem); (case x => first | assumption | decide +kernel); (case y => first | assumption | decide +kernel); (case u => first | ktr_units | walk_at "my_units" | decide))))
local macro_rules | `(tactic| walk_at "compareOp NotEq ref ref") => `(tactic| (k_here; k_dflt (refine' ne_tup3N ?N ?a ?b ?x ?u ?_; (case N => k_asm); (case a => k_mem); (case b => k_mem); (case x => decide +kernel); (case u => first | ktr_units | walk_at "my_units" | decide))))
local macro_rules | `(tactic| walk_at "compareOp NotEq ref ref") => `(tactic| (k_here; k_dflt (refine' ne_pair ?N ?a ?b ?x ?y ?u ?_; (case N => k_asm); (case a => k_mem); (case b => first | exact news_get (by k_asm) (by k_mem) | exact Fr.keep (by k_asm) _ _ (by assumption) | exact news_get (by k_asm) (by assumption)); (case x => first | assumption | decide +kernel); (case y => first | assumption | decide +kernel); (case u => first | ktr_units | walk_at "my_units" | decide))))
local macro_rules | `(tactic| walk_at "compareOp NotEq ref ref") => `(tactic| (k_here; k_dflt (refine' ne_pairN ?N ?a ?b ?x ?u ?_; (case N => k_asm); (case a => k_mem); (case b => first | exact news_get (by k_asm) (by k_mem) | exact Fr.keep (by k_asm) _ _ (by assumption) | exact news_get (by k_asm) (by assumption)); (case x => decide +kernel); (case u => first | ktr_units | walk_at "my_units" | decide))))

local macro_rules | `(tactic| walk_at "call type:tuple") => `(tactic| (k_here; (with_reducible show wpAny _ _ (call (Value.type "tuple") [Value.ref _]) _ _ _); k_dflt ((refine' tup107_N ?h ?d ?f ?u ?F ?X ?N ?T ?_); (case h => rfl); (case d => walk_at "my_depth"); (case f => rfl); (case u => first | ktr_units | walk_at "my_units" | decide); (case F => k_asm); (case X => k_asm); (case N => k_asm); (case T => k_mem); intro y' h' tk' F' N' n1)))
local macro_rules | `(tactic| walk_at "call type:tuple") => `(tactic| (k_here; (with_reducible show wpAny _ _ (call (Value.type "tuple") [Value.ref _]) _ _ _); k_dflt ((refine' tup135_N ?h ?d ?f ?u ?F ?X ?N ?T ?_); (case h => rfl); (case d => walk_at "my_depth"); (case f => rfl); (case u => first | ktr_units | walk_at "my_units" | decide); (case F => k_asm); (case X => k_asm); (case N => k_asm); (case T => k_mem); intro y' h' tk' F' N' n1)))

local macro_rules | `(tactic| walk_at "subscriptTail") => `(tactic| (k_here; (with_reducible show wpAny _ _ (subscriptTail _ (PySem.Expr.Slice _ _ _ _) (Value.ref _) (Value.ref _)) _ _ _); k_dflt (refine' slice_N ?F ?N ?m ?k ?z ?_ ?s ?t; (case F => k_asm); (case N => k_asm); (case m => k_mem); (case k => assumption); (case z => assumption); (case s => with_unfolding_all rfl); (case t => (intro _; with_unfolding_all rfl))); intro D' h' F' N' l1))


theorem pB0 : parts.1.2.2.2.2.2.2.1 := by
  k_with_none
  conv => whnf
  k_fill
  unhygienic intros
  repeat ((fail_if_success (with_reducible show wpAny _ _ (call (Value.ref 174) _) _ _ _)); (first | (k_unfold; (try dsimp only)) | walk1 | (dsimp only; walk1) | (leave1; walk_say "STEP leave1"; try dsimp only)))
  walk1
  repeat ((fail_if_success (with_reducible show wpAny _ _ (call (Value.ref 174) _) _ _ _)); (first | (k_unfold; (try dsimp only)) | walk1 | (dsimp only; walk1) | (leave1; walk_say "STEP leave1"; try dsimp only)))
  obtain ⟨R2, N2, hX2, hRR, q4, q7, q9⟩ := regroup [(_, _), (_, _)] (by k_asm) (by simp) (by assumption) o4 o7 o9
  replace hTL := hRR _ hTL
  replace hta := hRR _ hta
  replace htd := hRR _ htd
  replace hdue := hRR _ hdue
  repeat' (first | ((with_reducible show MidS _ _ _ _ _ _ _ _ _ _ _ _ _ _ _ _ _ _ _ _ _ _ _); exact mid_end (by k_asm) (by k_asm) (by assumption) (by k_mem) (by k_mem) (by k_mem) (by k_mem) (fun p hp => by simp only [List.mem_cons]; simp [hRR p hp]) (at_true hx) hsp (by with_unfolding_all rfl) (by with_unfolding_all rfl) (by with_unfolding_all rfl)) | (first | (k_unfold; (try dsimp only)) | walk1 | (dsimp only; walk1) | (leave1; walk_say "STEP leave1"; try dsimp only)))
end Mine
end
section
theorem Mine.rst_pB1 : True := by (w_top off); first | (walk1; done) | trivial
set_option maxHeartbeats 100000000
open PySem PySem.W PyProof.Rows PySem.Calls
namespace Mine
local macro_rules | `(tactic| walk_at "eval Name") => `(tactic| (k_here; (fail_if_success k_inBlock); k_dflt (first | (refine' nameX_L ?F ?v ?_ ?a ?b ?d; (case b => kernel_rfl); (case d => kernel_rfl); (case F => k_asm); (case a => rfl); (case v => rfl); k_whole) | (refine' nameX_C ?N ?c ?m ?d ?_ ?a ?b ?e; (case b => kernel_rfl); (case e => kernel_rfl); (case a => rfl); (case N => k_asm); (case c => rfl); (case m => k_mem); (case d => k_asm); k_whole) | (refine' nameX_K ?F ?X ?T ?e ?_ ?a ?b ?d; (case b => kernel_rfl); (case d => kernel_rfl); (case F => k_asm); (case X => k_asm); (case T => k_asm); (case a => rfl); (case e => k_is); k_whole) | (refine' nameX_B ?F ?X ?T ?e ?v ?n ?_ ?a ?b ?d; (case b => kernel_rfl); (case d => kernel_rfl); (case F => k_asm); (case X => k_asm); (case T => k_asm); (case a => rfl); (case e => k_is); (case v => boot_fast); (case n => decide); k_whole))))
local macro_rules | `(tactic| walk_at "storeName") => `(tactic| (k_here; k_dflt (first | (refine' storeX_L ?F ?N ?_ ?a ?b; (case b => kernel_rfl); (case F => k_asm); (case N => k_asm); (case a => rfl); k_whole; intro h' F' N'; (try k_sweep)) | (refine' storeX_C ?F ?N ?c ?U ?d ?_ ?a ?b; (case b => kernel_rfl); (case a => rfl); (case F => k_asm); (case N => k_asm); (case c => rfl); (case U => k_updF); (case d => k_asm); k_whole; intro h' o' F' N' d'; (try dsimp only at N'); (try k_sweep)))))
local macro_rules | `(tactic| walk_at "spliced") => `(tactic| first | with_reducible refine args_cons ?_ (by with_unfolding_all rfl) | with_reducible refine args_nil ⟨Fr.keep (by assumption) _ _ (by assumption), ?_⟩ | (with_reducible refine args_nil ?_; try simp only [List.cons_append, List.nil_append]))
local macro_rules | `(tactic| k_mem) => `(tactic| assumption)
local macro_rules | `(tactic| k_all) => `(tactic| assumption)
local macro_rules | `(tactic| k_ne) => `(tactic| first | assumption | exact Ne.symm (by assumption))
local macro_rules | `(tactic| k_inst) => `(tactic| (refine' instAt_seq ?N ?h1 ?h2; (case N => k_asm); (case h1 => k_mem); (case h2 => k_mem)))
local macro_rules | `(tactic| walk_at "my_depth") => `(tactic| ((try simp only [depth_under_make, depth_under_kw, depth_in1, depth_deeper, depth_caller]); (try dsimp only [ktrTop]); omega))
local macro_rules | `(tactic| walk_at "my_units") => `(tactic| ((try simp only [units_under_make, units_in1, units_deeper, Around.mark_units, units_caller]); (try dsimp only [ktrTop]); omega))
local macro_rules | `(tactic| walk_at "my_enter") => `(tactic| (refine' code_def ?k1 ?k2 ?k3 ?k4 ?k5 ?kA ?kF ?kK ?k6 ?k7 ?k8 ?k9 ?kB ?_ ?c2 ?c3 ?c4 ?c5; (case kA => exact rfl); (case kF => exact rfl); (case kK => first | assumption | exact rfl); (case k1 => k_asm); (case k2 => k_asm); (case k3 => k_asm); (case k4 => k_asm); (case k5 => k_asm); (case k6 => k_is); (case k7 => k_is); (case k8 => ktr_room); (case k9 => exact BindsTo.of_eq rfl); (case c5 => decide); (case kB => exact locs rfl); (case c2 => exact rfl); (case c3 => exact rfl); (case c4 => exact rfl); k_whole; intro g' L' h' FG' F' N' B' X' T'; (try dsimp only); (try k_lift B'); (try k_fold)))

local macro_rules | `(tactic| walk_at "getAttr ref") => `(tactic| (k_here; (with_reducible show wpAny _ _ (getAttr (Value.ref _) (Str.ofString "type") _) _ _ _); k_dflt ((first | refine' type107_ct (cl := []) ?B ?F ?X ?T ?k ?d ?u ?N ?x ?y ?h ?_ | refine' type135_ct (cl := []) ?B ?F ?X ?T ?k ?d ?u ?N ?x ?y ?h ?_); (case B => k_asm); (case F => k_asm); (case X => k_asm); (case T => k_asm); (case k => first | assumption | rfl); (case d => walk_at "my_depth"); (case u => walk_at "my_units"); (case N => k_asm); (case x => k_mem); (case y => k_mem); (case h => first | assumption | rfl); intro h' tk' F' N')))
local macro_rules | `(tactic| walk_at "getAttr ref") => `(tactic| (k_here; (with_reducible show wpAny _ _ (getAttr (Value.ref _) (Str.ofString "value") _) _ _ _); k_dflt ((first | refine' value107_ct (cl := []) ?B ?F ?X ?T ?k ?d ?u ?N ?x ?y ?h ?_ | refine' value135_ct (cl := []) ?B ?F ?X ?T ?k ?d ?u ?N ?x ?y ?h ?_); (case B => k_asm); (case F => k_asm); (case X => k_asm); (case T => k_asm); (case k => first | assumption | rfl); (case d => walk_at "my_depth"); (case u => walk_at "my_units"); (case N => k_asm); (case x => k_mem); (case y => k_mem); (case h => first | assumption | rfl); intro h' tk' F' N')))
local macro_rules | `(tactic| walk_at "getAttr ref") => `(tactic| (k_here; (with_reducible show wpAny _ _ (getAttr (Value.ref _) (Str.ofString "pos") _) _ _ _); k_dflt (refine' tok_own ?F ?X ?I ?g ?h ?m ?hd ?a ?n ?l ?hh ?_; (case F => k_asm); (case X => k_asm); (case I => k_inst); (case g => k_is); (case h => k_is); (case m => k_is); (case hd => k_is); (case a => k_is); (case n => k_is); (case l => k_get); (case hh => k_handed); k_whole)))
local macro_rules | `(tactic| walk_at "ite") => `(tactic| (k_closed; first | (with_reducible refine my_iteT (by with_unfolding_all rfl) ?_) | (with_reducible refine my_iteF (by with_unfolding_all rfl) ?_)))

local macro_rules | `(tactic| walk_at "call ref") => `(tactic| (k_here; k_dflt ((show wpAny _ _ (call (Value.ref 107) [_, _, _]) _ _ _); (refine' token_ct (outer := []) ?B ?F ?X ?T ?k ?d ?u ?N ?_; (case B => k_asm); (case F => k_asm); (case X => k_asm); (case T => k_asm); (case k => first | assumption | rfl); (case d => first | ktr_room | walk_at "my_depth"); (case u => first | ktr_units | walk_at "my_units"); (case N => k_asm); intro x' xd' hp' tp' h' tk' F' N' n1 n2 n3)); (try dsimp only)))
local macro_rules | `(tactic| walk_at "call ref") => `(tactic| (k_here; k_dflt ((show wpAny _ _ (call (Value.ref 135) [_]) _ _ _); (refine' eof_ct (outer := []) ?B ?F ?X ?T ?k ?d ?u ?N ?_; (case B => k_asm); (case F => k_asm); (case X => k_asm); (case T => k_asm); (case k => first | assumption | rfl); (case d => first | ktr_room | walk_at "my_depth"); (case u => first | ktr_units | walk_at "my_units"); (case N => k_asm); intro x' xd' hp' te' tp' h' tk' F' N' n1 n2 n3)); (try dsimp only)))
local macro_rules | `(tactic| walk_at "call builtin:len") => `(tactic| (k_here; k_dflt (refine' len_N ?N ?m ?c ?d ?k ?s ?_; (case N => k_asm); (case m => k_mem); (case c => rfl); (case d => rfl); (case k => exact refs_size); (case s => omega))))
local macro_rules | `(tactic| walk_at "binaryOp Add ref ref") => `(tactic| (k_here; k_dflt (refine' add_N ?F ?N ?l ?b ?z ?_; (case F => k_asm); (case N => k_asm); (case l => k_mem); (case b => k_mem); (case z => (simp only [refs, List.length_map, List.length_cons, List.length_nil]; omega))); intro x' h' F' N' n1))
local macro_rules | `(tactic| walk_at "call builtin:iter") => `(tactic| (k_here; (with_reducible show wpAny _ _ (call (Value.builtin "iter") [Value.ref _]) _ _ _); k_dflt ((refine' iter_li ?F ?N ?p ?c ?d ?_; (case F => k_asm); (case N => k_asm); (case p => k_mem); (case c => rfl); (case d => rfl); intro I' h' o' F' N' l1 hi'; (try k_lt l1)))))
local macro_rules | `(tactic| walk_at "subscriptTail") => `(tactic| (k_here; (with_reducible show wpAny _ _ (subscriptTail _ _ (Value.ref _) (Value.int (Nat.cast _) _)) _ _ _); k_dflt (refine' item_N ?N ?m ?k ?x ?_ ?s; (case N => k_asm); (case m => k_mem); (case k => omega); (case x => assumption); (case s => with_unfolding_all rfl))))
local macro_rules | `(tactic| walk_at "subscriptTail Name Name ref int") => `(tactic| (k_here; (with_reducible show wpAny _ _ (subscriptTail _ _ (Value.ref _) (Value.int (Nat.cast _) _)) _ _ _); k_dflt (refine' item_N ?N ?m ?k ?x ?_ ?s; (case N => k_asm); (case m => k_mem); (case k => omega); (case x => assumption); (case s => with_unfolding_all rfl))))
local macro_rules | `(tactic| walk_at "subscriptTail") => `(tactic| (k_here; (with_reducible show wpAny _ _ (subscriptTail _ _ (Value.ref _) (Value.int 0 _)) _ _ _); k_dflt (refine' tup0 ?g ?_ ?s; (case g => first | exact Fr.keep (by k_asm) _ _ (by assumption) | exact news_get (by k_asm) (by assumption) | exact news_get (by k_asm) (by k_mem)); (case s => with_unfolding_all rfl))))
local macro_rules | `(tactic| walk_at "subscriptTail Name Constant ref int") => `(tactic| (k_here; (with_reducible show wpAny _ _ (subscriptTail _ _ (Value.ref _) (Value.int 0 _)) _ _ _); k_dflt (refine' tup0 ?g ?_ ?s; (case g => first | exact Fr.keep (by k_asm) _ _ (by assumption) | exact news_get (by k_asm) (by assumption) | exact news_get (by k_asm) (by k_mem)); (case s => with_unfolding_all rfl))))
local macro_rules | `(tactic| walk_at "subscriptTail Subscript Constant ref int") => `(tactic| (k_here; (with_reducible show wpAny _ _ (subscriptTail _ _ (Value.ref _) (Value.int 0 _)) _ _ _); k_dflt (refine' tup0 ?g ?_ ?s; (case g => first | exact Fr.keep (by k_asm) _ _ (by assumption) | exact news_get (by k_asm) (by assumption) | exact news_get (by k_asm) (by k_mem)); (case s => with_unfolding_all rfl))))
local macro_rules | `(tactic| walk_at "subscriptTail") => `(tactic| (k_here; (with_reducible show wpAny _ _ (subscriptTail _ _ (Value.ref _) (Value.int 1 _)) _ _ _); k_dflt (refine' tup1 ?g ?_ ?s; (case g => first | exact Fr.keep (by k_asm) _ _ (by assumption) | exact news_get (by k_asm) (by assumption) | exact news_get (by k_asm) (by k_mem)); (case s => with_unfolding_all rfl))))
local macro_rules | `(tactic| walk_at "subscriptTail Name Constant ref int") => `(tactic| (k_here; (with_reducible show wpAny _ _ (subscriptTail _ _ (Value.ref _) (Value.int 1 _)) _ _ _); k_dflt (refine' tup1 ?g ?_ ?s; (case g => first | exact Fr.keep (by k_asm) _ _ (by assumption) | exact news_get (by k_asm) (by assumption) | exact news_get (by k_asm) (by k_mem)); (case s => with_unfolding_all rfl))))
local macro_rules | `(tactic| walk_at "call ref") => `(tactic| (k_here; k_dflt ((show wpAny _ _ (call (Value.ref 174) [Value.ref _]) _ _ _); (refine' peek_ct (outer := []) ?B ?F ?X ?T ?k ?d ?u ?N ?i ?l ?a ?x ?o1 ?o2 ?o3 ?o4 ?o5 ?o6 ?o7 ?o8 ?o9 ?oa ?ob ?oc ?_; (case B => k_asm); (case F => k_asm); (case X => k_asm); (case T => k_asm); (case k => first | assumption | rfl); (case d => first | ktr_room | walk_at "my_depth"); (case u => first | ktr_units | walk_at "my_units"); (case N => k_asm); (case i => k_asm); (case l => k_mem); (case a => first | assumption | exact at_true (by assumption)); (case x => assumption); (case o1 => assumption); (case o2 => assumption); (case o3 => assumption); (case o4 => assumption); (case o5 => assumption); (case o6 => assumption); (case o7 => assumption); (case o8 => assumption); (case o9 => assumption); (case oa => assumption); (case ob => assumption); (case oc => assumption); intro io' h' tk' F' N' hi')); (try dsimp only)))
local macro_rules | `(tactic| walk_at "getAttr ref") => `(tactic| (k_here; (with_reducible show wpAny _ _ (getAttr (Value.ref _) (Str.ofString "type") _) _ _ _); k_dflt ((refine' type107_ct ?B ?F ?X ?T ?k ?d ?u ?N ?x ?y ?h ?_); (case B => k_asm); (case F => k_asm); (case X => k_asm); (case T => k_asm); (case k => first | assumption | rfl); (case d => first | ktr_room | walk_at "my_depth"); (case u => first | ktr_units | walk_at "my_units"); (case N => k_asm); (case x => k_mem); (case y => k_mem); (case h => first | assumption | rfl); intro h' tk' F' N')))
local macro_rules | `(tactic| walk_at "getAttr ref") => `(tactic| (k_here; (with_reducible show wpAny _ _ (getAttr (Value.ref _) (Str.ofString "type") _) _ _ _); k_dflt ((refine' type135_ct ?B ?F ?X ?T ?k ?d ?u ?N ?x ?y ?h ?_); (case B => k_asm); (case F => k_asm); (case X => k_asm); (case T => k_asm); (case k => first | assumption | rfl); (case d => first | ktr_room | walk_at "my_depth"); (case u => first | ktr_units | walk_at "my_units"); (case N => k_asm); (case x => k_mem); (case y => k_mem); (case h => first | assumption | rfl); intro h' tk' F' N')))
local macro_rules | `(tactic| walk_at "getAttr ref") => `(tactic| (k_here; (with_reducible show wpAny _ _ (getAttr (Value.ref _) (Str.ofString "value") _) _ _ _); k_dflt ((refine' value107_ct ?B ?F ?X ?T ?k ?d ?u ?N ?x ?y ?h ?_); (case B => k_asm); (case F => k_asm); (case X => k_asm); (case T => k_asm); (case k => first | assumption | rfl); (case d => first | ktr_room | walk_at "my_depth"); (case u => first | ktr_units | walk_at "my_units"); (case N => k_asm); (case x => k_mem); (case y => k_mem); (case h => first | assumption | rfl); intro h' tk' F' N')))
local macro_rules | `(tactic| walk_at "getAttr ref") => `(tactic| (k_here; (with_reducible show wpAny _ _ (getAttr (Value.ref _) (Str.ofString "value") _) _ _ _); k_dflt ((refine' value135_ct ?B ?F ?X ?T ?k ?d ?u ?N ?x ?y ?h ?_); (case B => k_asm); (case F => k_asm); (case X => k_asm); (case T => k_asm); (case k => first | assumption | rfl); (case d => first | ktr_room | walk_at "my_depth"); (case u => first | ktr_units | walk_at "my_units"); (case N => k_asm); (case x => k_mem); (case y => k_mem); (case h => first | assumption | rfl); intro h' tk' F' N')))

local macro_rules | `(tactic| walk_at "compareOp NotEq ref ref") => `(tactic| (k_here; k_dflt (refine' ne_tup3 ?N ?a ?b ?x ?y ?u ?_; (case N => k_asm); (case a => k_mem); (case b => k_mem); (case x => first | assumption | decide +kernel); (case y => first | assumption | decide +kernel); (case u => first | ktr_units | walk_at "my_units" | decide))))
local macro_rules | `(tactic| walk_at "compareOp NotEq ref ref") => `(tactic| (k_here; k_dflt (refine' ne_tup3N ?N ?a ?b ?x ?u ?_; (case N => k_asm); (case a => k_mem); (case b => k_mem); (case x => decide +kernel); (case u => first | ktr_units | walk_at "my_units" | decide))))
local macro_rules | `(tactic| walk_at "compareOp NotEq ref ref") => `(tactic| (k_here; k_dflt (refine' ne_pair ?N ?a ?b ?x ?y ?u ?_; (case N => k_asm); (case a => k_mem); (case b => first | exact news_get (by k_asm) (by k_mem) | exact Fr.keep (by k_asm) _ _ (by assumption) | exact news_get (by k_asm) (by assumption)); (case x => first | assumption | decide +kernel); (case y => first | assumption | decide +kernel); (case u => first | ktr_units | walk_at "my_units" | decide))))
local macro_rules | `(tactic| walk_at "compareOp NotEq ref ref") => `(tactic| (k_here; k_dflt (refine' ne_pairN ?N ?a ?b ?x ?u ?_; (case N => k_asm); (case a => k_mem); (case b => first | exact news_get (by k_asm) (by k_mem) | exact Fr.keep (by k_asm) _ _ (by assumption) | exact news_get (by k_asm) (by assumption)); (case x => decide +kernel); (case u => first | ktr_units | walk_at "my_units" | decide))))

local macro_rules | `(tactic| walk_at "call type:tuple") => `(tactic| (k_here; (with_reducible show wpAny _ _ (call (Value.type "tuple") [Value.ref _]) _ _ _); k_dflt ((refine' tup107_N ?h ?d ?f ?u ?F ?X ?N ?T ?_); (case h => rfl); (case d => walk_at "my_depth"); (case f => rfl); (case u => first | ktr_units | walk_at "my_units" | decide); (case F => k_asm); (case X => k_asm); (case N => k_asm); (case T => k_mem); intro y' h' tk' F' N' n1)))
local macro_rules | `(tactic| walk_at "call type:tuple") => `(tactic| (k_here; (with_reducible show wpAny _ _ (call (Value.type "tuple") [Value.ref _]) _ _ _); k_dflt ((refine' tup135_N ?h ?d ?f ?u ?F ?X ?N ?T ?_); (case h => rfl); (case d => walk_at "my_depth"); (case f => rfl); (case u => first | ktr_units | walk_at "my_units" | decide); (case F => k_asm); (case X => k_asm); (case N => k_asm); (case T => k_mem); intro y' h' tk' F' N' n1)))

local macro_rules | `(tactic| walk_at "subscriptTail") => `(tactic| (k_here; (with_reducible show wpAny _ _ (subscriptTail _ (PySem.Expr.Slice _ _ _ _) (Value.ref _) (Value.ref _)) _ _ _); k_dflt (refine' slice_N ?F ?N ?m ?k ?z ?_ ?s ?t; (case F => k_asm); (case N => k_asm); (case m => k_mem); (case k => assumption); (case z => assumption); (case s => with_unfolding_all rfl); (case t => (intro _; with_unfolding_all rfl))); intro D' h' F' N' l1))


theorem pB1 : parts.1.2.2.2.2.2.2.2.1 := by
  k_with_none
  conv => whnf
  k_fill
  unhygienic intros
  repeat' (first | (exfalso; rename_i hz; with_reducible first | exact bne_absurd hz (by assumption) | exact beq_absurd hz (by assumption) | exact and_absurd hz (by assumption)) | ((with_reducible show MidS _ _ _ _ _ _ _ _ _ _ _ _ _ _ _ _ _ _ _ _ _ _ _); exact mid_end (by k_asm) (by k_asm) (by assumption) (by k_mem) (by k_mem) (by k_mem) (by k_mem) (fun p hp => by simp only [List.mem_cons]; simp [hp]) hat hsp (by with_unfolding_all rfl) (by with_unfolding_all rfl) (by with_unfolding_all rfl)) | (first | (k_unfold; (try dsimp only)) | walk1 | (dsimp only; walk1) | (leave1; walk_say "STEP leave1"; try dsimp only)))
end Mine
end
section
theorem Mine.rst_pB2 : True := by (w_top off); first | (walk1; done) | trivial
set_option maxHeartbeats 100000000
open PySem PySem.W PyProof.Rows PySem.Calls
namespace Mine
local macro_rules | `(tactic| walk_at "eval Name") => `(tactic| (k_here; (fail_if_success k_inBlock); k_dflt (first | (refine' nameX_L ?F ?v ?_ ?a ?b ?d; (case b => kernel_rfl); (case d => kernel_rfl); (case F => k_asm); (case a => rfl); (case v => rfl); k_whole) | (refine' nameX_C ?N ?c ?m ?d ?_ ?a ?b ?e; (case b => kernel_rfl); (case e => kernel_rfl); (case a => rfl); (case N => k_asm); (case c => rfl); (case m => k_mem); (case d => k_asm); k_whole) | (refine' nameX_K ?F ?X ?T ?e ?_ ?a ?b ?d; (case b => kernel_rfl); (case d => kernel_rfl); (case F => k_asm); (case X => k_asm); (case T => k_asm); (case a => rfl); (case e => k_is); k_whole) | (refine' nameX_B ?F ?X ?T ?e ?v ?n ?_ ?a ?b ?d; (case b => kernel_rfl); (case d => kernel_rfl); (case F => k_asm); (case X => k_asm); (case T => k_asm); (case a => rfl); (case e => k_is); (case v => boot_fast); (case n => decide); k_whole))))
local macro_rules | `(tactic| walk_at "storeName") => `(tactic| (k_here; k_dflt (first | (refine' storeX_L ?F ?N ?_ ?a ?b; (case b => kernel_rfl); (case F => k_asm); (case N => k_asm); (case a => rfl); k_whole; intro h' F' N'; (try k_sweep)) | (refine' storeX_C ?F ?N ?c ?U ?d ?_ ?a ?b; (case b => kernel_rfl); (case a => rfl); (case F => k_asm); (case N => k_asm); (case c => rfl); (case U => k_updF); (case d => k_asm); k_whole; intro h' o' F' N' d'; (try dsimp only at N'); (try k_sweep)))))
local macro_rules | `(tactic| walk_at "spliced") => `(tactic| first | with_reducible refine args_cons ?_ (by with_unfolding_all rfl) | with_reducible refine args_nil ⟨Fr.keep (by assumption) _ _ (by assumption), ?_⟩ | (with_reducible refine args_nil ?_; try simp only [List.cons_append, List.nil_append]))
local macro_rules | `(tactic| k_mem) => `(tactic| assumption)
local macro_rules | `(tactic| k_all) => `(tactic| assumption)
local macro_rules | `(tactic| k_ne) => `(tactic| first | assumption | exact Ne.symm (by assumption))
local macro_rules | `(tactic| k_inst) => `(tactic| (refine' instAt_seq ?N ?h1 ?h2; (case N => k_asm); (case h1 => k_mem); (case h2 => k_mem)))
local macro_rules | `(tactic| walk_at "my_depth") => `(tactic| ((try simp only [depth_under_make, depth_under_kw, depth_in1, depth_deeper, depth_caller]); (try dsimp only [ktrTop]); omega))
local macro_rules | `(tactic| walk_at "my_units") => `(tactic| ((try simp only [units_under_make, units_in1, units_deeper, Around.mark_units, units_caller]); (try dsimp only [ktrTop]); omega))
local macro_rules | `(tactic| walk_at "my_enter") => `(tactic| (refine' code_def ?k1 ?k2 ?k3 ?k4 ?k5 ?kA ?kF ?kK ?k6 ?k7 ?k8 ?k9 ?kB ?_ ?c2 ?c3 ?c4 ?c5; (case kA => exact rfl); (case kF => exact rfl); (case kK => first | assumption | exact rfl); (case k1 => k_asm); (case k2 => k_asm); (case k3 => k_asm); (case k4 => k_asm); (case k5 => k_asm); (case k6 => k_is); (case k7 => k_is); (case k8 => ktr_room); (case k9 => exact BindsTo.of_eq rfl); (case c5 => decide); (case kB => exact locs rfl); (case c2 => exact rfl); (case c3 => exact rfl); (case c4 => exact rfl); k_whole; intro g' L' h' FG' F' N' B' X' T'; (try dsimp only); (try k_lift B'); (try k_fold)))

local macro_rules | `(tactic| walk_at "getAttr ref") => `(tactic| (k_here; (with_reducible show wpAny _ _ (getAttr (Value.ref _) (Str.ofString "type") _) _ _ _); k_dflt ((first | refine' type107_ct (cl := []) ?B ?F ?X ?T ?k ?d ?u ?N ?x ?y ?h ?_ | refine' type135_ct (cl := []) ?B ?F ?X ?T ?k ?d ?u ?N ?x ?y ?h ?_); (case B => k_asm); (case F => k_asm); (case X => k_asm); (case T => k_asm); (case k => first | assumption | rfl); (case d => walk_at "my_depth"); (case u => walk_at "my_units"); (case N => k_asm); (case x => k_mem); (case y => k_mem); (case h => first | assumption | rfl); intro h' tk' F' N')))
local macro_rules | `(tactic| walk_at "getAttr ref") => `(tactic| (k_here; (with_reducible show wpAny _ _ (getAttr (Value.ref _) (Str.ofString "value") _) _ _ _); k_dflt ((first | refine' value107_ct (cl := []) ?B ?F ?X ?T ?k ?d ?u ?N ?x ?y ?h ?_ | refine' value135_ct (cl := []) ?B ?F ?X ?T ?k ?d ?u ?N ?x ?y ?h ?_); (case B => k_asm); (case F => k_asm); (case X => k_asm); (case T => k_asm); (case k => first | assumption | rfl); (case d => walk_at "my_depth"); (case u => walk_at "my_units"); (case N => k_asm); (case x => k_mem); (case y => k_mem); (case h => first | assumption | rfl); intro h' tk' F' N')))
local macro_rules | `(tactic| walk_at "getAttr ref") => `(tactic| (k_here; (with_reducible show wpAny _ _ (getAttr (Value.ref _) (Str.ofString "pos") _) _ _ _); k_dflt (refine' tok_own ?F ?X ?I ?g ?h ?m ?hd ?a ?n ?l ?hh ?_; (case F => k_asm); (case X => k_asm); (case I => k_inst); (case g => k_is); (case h => k_is); (case m => k_is); (case hd => k_is); (case a => k_is); (case n => k_is); (case l => k_get); (case hh => k_handed); k_whole)))
local macro_rules | `(tactic| walk_at "ite") => `(tactic| (k_closed; first | (with_reducible refine my_iteT (by with_unfolding_all rfl) ?_) | (with_reducible refine my_iteF (by with_unfolding_all rfl) ?_)))

local macro_rules | `(tactic| walk_at "call ref") => `(tactic| (k_here; k_dflt ((show wpAny _ _ (call (Value.ref 107) [_, _, _]) _ _ _); (refine' token_ct (outer := []) ?B ?F ?X ?T ?k ?d ?u ?N ?_; (case B => k_asm); (case F => k_asm); (case X => k_asm); (case T => k_asm); (case k => first | assumption | rfl); (case d => first | ktr_room | walk_at "my_depth"); (case u => first | ktr_units | walk_at "my_units"); (case N => k_asm); intro x' xd' hp' tp' h' tk' F' N' n1 n2 n3)); (try dsimp only)))
local macro_rules | `(tactic| walk_at "call ref") => `(tactic| (k_here; k_dflt ((show wpAny _ _ (call (Value.ref 135) [_]) _ _ _); (refine' eof_ct (outer := []) ?B ?F ?X ?T ?k ?d ?u ?N ?_; (case B => k_asm); (case F => k_asm); (case X => k_asm); (case T => k_asm); (case k => first | assumption | rfl); (case d => first | ktr_room | walk_at "my_depth"); (case u => first | ktr_units | walk_at "my_units"); (case N => k_asm); intro x' xd' hp' te' tp' h' tk' F' N' n1 n2 n3)); (try dsimp only)))
local macro_rules | `(tactic| walk_at "call builtin:len") => `(tactic| (k_here; k_dflt (refine' len_N ?N ?m ?c ?d ?k ?s ?_; (case N => k_asm); (case m => k_mem); (case c => rfl); (case d => rfl); (case k => exact refs_size); (case s => omega))))
local macro_rules | `(tactic| walk_at "binaryOp Add ref ref") => `(tactic| (k_here; k_dflt (refine' add_N ?F ?N ?l ?b ?z ?_; (case F => k_asm); (case N => k_asm); (case l => k_mem); (case b => k_mem); (case z => (simp only [refs, List.length_map, List.length_cons, List.length_nil]; omega))); intro x' h' F' N' n1))
local macro_rules | `(tactic| walk_at "call builtin:iter") => `(tactic| (k_here; (with_reducible show wpAny _ _ (call (Value.builtin "iter") [Value.ref _]) _ _ _); k_dflt ((refine' iter_li ?F ?N ?p ?c ?d ?_; (case F => k_asm); (case N => k_asm); (case p => k_mem); (case c => rfl); (case d => rfl); intro I' h' o' F' N' l1 hi'; (try k_lt l1)))))
local macro_rules | `(tactic| walk_at "subscriptTail") => `(tactic| (k_here; (with_reducible show wpAny _ _ (subscriptTail _ _ (Value.ref _) (Value.int (Nat.cast _) _)) _ _ _); k_dflt (refine' item_N ?N ?m ?k ?x ?_ ?s; (case N => k_asm); (case m => k_mem); (case k => omega); (case x => assumption); (case s => with_unfolding_all rfl))))
local macro_rules | `(tactic| walk_at "subscriptTail Name Name ref int") => `(tactic| (k_here; (with_reducible show wpAny _ _ (subscriptTail _ _ (Value.ref _) (Value.int (Nat.cast _) _)) _ _ _); k_dflt (refine' item_N ?N ?m ?k ?x ?_ ?s; (case N => k_asm); (case m => k_mem); (case k => omega); (case x => assumption); (case s => with_unfolding_all rfl))))
local macro_rules | `(tactic| walk_at "subscriptTail") => `(tactic| (k_here; (with_reducible show wpAny _ _ (subscriptTail _ _ (Value.ref _) (Value.int 0 _)) _ _ _); k_dflt (refine' tup0 ?g ?_ ?s; (case g => first | exact Fr.keep (by k_asm) _ _ (by assumption) | exact news_get (by k_asm) (by assumption) | exact news_get (by k_asm) (by k_mem)); (case s => with_unfolding_all rfl))))
local macro_rules | `(tactic| walk_at "subscriptTail Name Constant ref int") => `(tactic| (k_here; (with_reducible show wpAny _ _ (subscriptTail _ _ (Value.ref _) (Value.int 0 _)) _ _ _); k_dflt (refine' tup0 ?g ?_ ?s; (case g => first | exact Fr.keep (by k_asm) _ _ (by assumption) | exact news_get (by k_asm) (by assumption) | exact news_get (by k_asm) (by k_mem)); (case s => with_unfolding_all rfl))))
local macro_rules | `(tactic| walk_at "subscriptTail Subscript Constant ref int") => `(tactic| (k_here; (with_reducible show wpAny _ _ (subscriptTail _ _ (Value.ref _) (Value.int 0 _)) _ _ _); k_dflt (refine' tup0 ?g ?_ ?s; (case g => first | exact Fr.keep (by k_asm) _ _ (by assumption) | exact news_get (by k_asm) (by assumption) | exact news_get (by k_asm) (by k_mem)); (case s => with_unfolding_all rfl))))
local macro_rules | `(tactic| walk_at "subscriptTail") => `(tactic| (k_here; (with_reducible show wpAny _ _ (subscriptTail _ _ (Value.ref _) (Value.int 1 _)) _ _ _); k_dflt (refine' tup1 ?g ?_ ?s; (case g => first | exact Fr.keep (by k_asm) _ _ (by assumption) | exact news_get (by k_asm) (by assumption) | exact news_get (by k_asm) (by k_mem)); (case s => with_unfolding_all rfl))))
local macro_rules | `(tactic| walk_at "subscriptTail Name Constant ref int") => `(tactic| (k_here; (with_reducible show wpAny _ _ (subscriptTail _ _ (Value.ref _) (Value.int 1 _)) _ _ _); k_dflt (refine' tup1 ?g ?_ ?s; (case g => first | exact Fr.keep (by k_asm) _ _ (by assumption) | exact news_get (by k_asm) (by assumption) | exact news_get (by k_asm) (by k_mem)); (case s => with_unfolding_all rfl))))
local macro_rules | `(tactic| walk_at "call ref") => `(tactic| (k_here; k_dflt ((show wpAny _ _ (call (Value.ref 174) [Value.ref _]) _ _ _); (refine' peek_ct (outer := []) ?B ?F ?X ?T ?k ?d ?u ?N ?i ?l ?a ?x ?o1 ?o2 ?o3 ?o4 ?o5 ?o6 ?o7 ?o8 ?o9 ?oa ?ob ?oc ?_; (case B => k_asm); (case F => k_asm); (case X => k_asm); (case T => k_asm); (case k => first | assumption | rfl); (case d => first | ktr_room | walk_at "my_depth"); (case u => first | ktr_units | walk_at "my_units"); (case N => k_asm); (case i => k_asm); (case l => k_mem); (case a => first | assumption | exact at_true (by assumption)); (case x => assumption); (case o1 => assumption); (case o2 => assumption); (case o3 => assumption); (case o4 => assumption); (case o5 => assumption); (case o6 => assumption); (case o7 => assumption); (case o8 => assumption); (case o9 => assumption); (case oa => assumption); (case ob => assumption); (case oc => assumption); intro io' h' tk' F' N' hi')); (try dsimp only)))
local macro_rules | `(tactic| walk_at "getAttr ref") => `(tactic| (k_here; (with_reducible show wpAny _ _ (getAttr (Value.ref _) (Str.ofString "type") _) _ _ _); k_dflt ((refine' type107_ct ?B ?F ?X ?T ?k ?d ?u ?N ?x ?y ?h ?_); (case B => k_asm); (case F => k_asm); (case X => k_asm); (case T => k_asm); (case k => first | assumption | rfl); (case d => first | ktr_room | walk_at "my_depth"); (case u => first | ktr_units | walk_at "my_units"); (case N => k_asm); (case x => k_mem); (case y => k_mem); (case h => first | assumption | rfl); intro h' tk' F' N')))
local macro_rules | `(tactic| walk_at "getAttr ref") => `(tactic| (k_here; (with_reducible show wpAny _ _ (getAttr (Value.ref _) (Str.ofString "type") _) _ _ _); k_dflt ((refine' type135_ct ?B ?F ?X ?T ?k ?d ?u ?N ?x ?y ?h ?_); (case B => k_asm); (case F => k_asm); (case X => k_asm); (case T => k_asm); (case k => first | assumption | rfl); (case d => first | ktr_room | walk_at "my_depth"); (case u => first | ktr_units | walk_at "my_units"); (case N => k_asm); (case x => k_mem); (case y => k_mem); (case h => first | assumption | rfl); intro h' tk' F' N')))
local macro_rules | `(tactic| walk_at "getAttr ref") => `(tactic| (k_here; (with_reducible show wpAny _ _ (getAttr (Value.ref _) (Str.ofString "value") _) _ _ _); k_dflt ((refine' value107_ct ?B ?F ?X ?T ?k ?d ?u ?N ?x ?y ?h ?_); (case B => k_asm); (case F => k_asm); (case X => k_asm); (case T => k_asm); (case k => first | assumption | rfl); (case d => first | ktr_room | walk_at "my_depth"); (case u => first | ktr_units | walk_at "my_units"); (case N => k_asm); (case x => k_mem); (case y => k_mem); (case h => first | assumption | rfl); intro h' tk' F' N')))
local macro_rules | `(tactic| walk_at "getAttr ref") => `(tactic| (k_here; (with_reducible show wpAny _ _ (getAttr (Value.ref _) (Str.ofString "value") _) _ _ _); k_dflt ((refine' value135_ct ?B ?F ?X ?T ?k ?d ?u ?N ?x ?y ?h ?_); (case B => k_asm); (case F => k_asm); (case X => k_asm); (case T => k_asm); (case k => first | assumption | rfl); (case d => first | ktr_room | walk_at "my_depth"); (case u => first | ktr_units | walk_at "my_units"); (case N => k_asm); (case x => k_mem); (case y => k_mem); (case h => first | assumption | rfl); intro h' tk' F' N')))

local macro_rules | `(tactic| walk_at "compareOp NotEq ref ref") => `(tactic| (k_here; k_dflt (refine' ne_tup3 ?N ?a ?b ?x ?y ?u ?_; (case N => k_asm); (case a => k_mem); (case b => k_mem); (case x => first | assumption | decide +kernel); (case y => first | assumption | decide +kernel); (case u => first | ktr_units | walk_at "my_units" | decide))))
local macro_rules | `(tactic| walk_at "compareOp NotEq ref ref") => `(tactic| (k_here; k_dflt (refine' ne_tup3N ?N ?a ?b ?x ?u ?_; (case N => k_asm); (case a => k_mem); (case b => k_mem); (case x => decide +kernel); (case u => first | ktr_units | walk_at "my_units" | decide))))
local macro_rules | `(tactic| walk_at "compareOp NotEq ref ref") => `(tactic| (k_here; k_dflt (refine' ne_pair ?N ?a ?b ?x ?y ?u ?_; (case N => k_asm); (case a => k_mem); (case b => first | exact news_get (by k_asm) (by k_mem) | exact Fr.keep (by k_asm) _ _ (by assumption) | exact news_get (by k_asm) (by assumption)); (case x => first | assumption | decide +kernel); (case y => first | assumption | decide +kernel); (case u => first | ktr_units | walk_at "my_units" | decide))))
local macro_rules | `(tactic| walk_at "compareOp NotEq ref ref") => `(tactic| (k_here; k_dflt (refine' ne_pairN ?N ?a ?b ?x ?u ?_; (case N => k_asm); (case a => k_mem); (case b => first | exact news_get (by k_asm) (by k_mem) | exact Fr.keep (by k_asm) _ _ (by assumption) | exact news_get (by k_asm) (by assumption)); (case x => decide +kernel); (case u => first | ktr_units | walk_at "my_units" | decide))))

local macro_rules | `(tactic| walk_at "call type:tuple") => `(tactic| (k_here; (with_reducible show wpAny _ _ (call (Value.type "tuple") [Value.ref _]) _ _ _); k_dflt ((refine' tup107_N ?h ?d ?f ?u ?F ?X ?N ?T ?_); (case h => rfl); (case d => walk_at "my_depth"); (case f => rfl); (case u => first | ktr_units | walk_at "my_units" | decide); (case F => k_asm); (case X => k_asm); (case N => k_asm); (case T => k_mem); intro y' h' tk' F' N' n1)))
local macro_rules | `(tactic| walk_at "call type:tuple") => `(tactic| (k_here; (with_reducible show wpAny _ _ (call (Value.type "tuple") [Value.ref _]) _ _ _); k_dflt ((refine' tup135_N ?h ?d ?f ?u ?F ?X ?N ?T ?_); (case h => rfl); (case d => walk_at "my_depth"); (case f => rfl); (case u => first | ktr_units | walk_at "my_units" | decide); (case F => k_asm); (case X => k_asm); (case N => k_asm); (case T => k_mem); intro y' h' tk' F' N' n1)))

local macro_rules | `(tactic| walk_at "subscriptTail") => `(tactic| (k_here; (with_reducible show wpAny _ _ (subscriptTail _ (PySem.Expr.Slice _ _ _ _) (Value.ref _) (Value.ref _)) _ _ _); k_dflt (refine' slice_N ?F ?N ?m ?k ?z ?_ ?s ?t; (case F => k_asm); (case N => k_asm); (case m => k_mem); (case k => assumption); (case z => assumption); (case s => with_unfolding_all rfl); (case t => (intro _; with_unfolding_all rfl))); intro D' h' F' N' l1))


theorem pB2 : parts.1.2.2.2.2.2.2.2.2.1 := by
  k_with_none
  conv => whnf
  k_fill
  unhygienic intros
  repeat' (first | (exfalso; rename_i hz; with_reducible first | exact bne_absurd hz (by assumption) | exact beq_absurd hz (by assumption) | exact and_absurd hz (by assumption)) | ((with_reducible show MidS _ _ _ _ _ _ _ _ _ _ _ _ _ _ _ _ _ _ _ _ _ _ _); exact mid_end (by k_asm) (by k_asm) (by assumption) (by k_mem) (by k_mem) (by k_mem) (by k_mem) (fun p hp => by simp only [List.mem_cons]; simp [hp]) hat hsp (by with_unfolding_all rfl) (by with_unfolding_all rfl) (by with_unfolding_all rfl)) | (first | (k_unfold; (try dsimp only)) | walk1 | (dsimp only; walk1) | (leave1; walk_say "STEP leave1"; try dsimp only)))
end Mine
end
section
theorem Mine.rst_pB3 : True := by (w_top off); first | (walk1; done) | trivial
set_option maxHeartbeats 100000000
open PySem PySem.W PyProof.Rows PySem.Calls
namespace Mine
local macro_rules | `(tactic| walk_at "eval Name") => `(tactic| (k_here; (fail_if_success k_inBlock); k_dflt (first | (refine' nameX_L ?F ?v ?_ ?a ?b ?d; (case b => kernel_rfl); (case d => kernel_rfl); (case F => k_asm); (case a => rfl); (case v => rfl); k_whole) | (refine' nameX_C ?N ?c ?m ?d ?_ ?a ?b ?e; (case b => kernel_rfl); (case e => kernel_rfl); (case a => rfl); (case N => k_asm); (case c => rfl); (case m => k_mem); (case d => k_asm); k_whole) | (refine' nameX_K ?F ?X ?T ?e ?_ ?a ?b ?d; (case b => kernel_rfl); (case d => kernel_rfl); (case F => k_asm); (case X => k_asm); (case T => k_asm); (case a => rfl); (case e => k_is); k_whole) | (refine' nameX_B ?F ?X ?T ?e ?v ?n ?_ ?a ?b ?d; (case b => kernel_rfl); (case d => kernel_rfl); (case F => k_asm); (case X => k_asm); (case T => k_asm); (case a => rfl); (case e => k_is); (case v => boot_fast); (case n => decide); k_whole))))
local macro_rules | `(tactic| walk_at "storeName") => `(tactic| (k_here; k_dflt (first | (refine' storeX_L ?F ?N ?_ ?a ?b; (case b => kernel_rfl); (case F => k_asm); (case N => k_asm); (case a => rfl); k_whole; intro h' F' N'; (try k_sweep)) | (refine' storeX_C ?F ?N ?c ?U ?d ?_ ?a ?b; (case b => kernel_rfl); (case a => rfl); (case F => k_asm); (case N => k_asm); (case c => rfl); (case U => k_updF); (case d => k_asm); k_whole; intro h' o' F' N' d'; (try dsimp only at N'); (try k_sweep)))))
local macro_rules | `(tactic| walk_at "spliced") => `(tactic| first | with_reducible refine args_cons ?_ (by with_unfolding_all rfl) | with_reducible refine args_nil ⟨Fr.keep (by assumption) _ _ (by assumption), ?_⟩ | (with_reducible refine args_nil ?_; try simp only [List.cons_append, List.nil_append]))
local macro_rules | `(tactic| k_mem) => `(tactic| assumption)
local macro_rules | `(tactic| k_all) => `(tactic| assumption)
local macro_rules | `(tactic| k_ne) => `(tactic| first | assumption | exact Ne.symm (by assumption))
local macro_rules | `(tactic| k_inst) => `(tactic| (refine' instAt_seq ?N ?h1 ?h2; (case N => k_asm); (case h1 => k_mem); (case h2 => k_mem)))
local macro_rules | `(tactic| walk_at "my_depth") => `(tactic| ((try simp only [depth_under_make, depth_under_kw, depth_in1, depth_deeper, depth_caller]); (try dsimp only [ktrTop]); omega))
local macro_rules | `(tactic| walk_at "my_units") => `(tactic| ((try simp only [units_under_make, units_in1, units_deeper, Around.mark_units, units_caller]); (try dsimp only [ktrTop]); omega))
local macro_rules | `(tactic| walk_at "my_enter") => `(tactic| (refine' code_def ?k1 ?k2 ?k3 ?k4 ?k5 ?kA ?kF ?kK ?k6 ?k7 ?k8 ?k9 ?kB ?_ ?c2 ?c3 ?c4 ?c5; (case kA => exact rfl); (case kF => exact rfl); (case kK => first | assumption | exact rfl); (case k1 => k_asm); (case k2 => k_asm); (case k3 => k_asm); (case k4 => k_asm); (case k5 => k_asm); (case k6 => k_is); (case k7 => k_is); (case k8 => ktr_room); (case k9 => exact BindsTo.of_eq rfl); (case c5 => decide); (case kB => exact locs rfl); (case c2 => exact rfl); (case c3 => exact rfl); (case c4 => exact rfl); k_whole; intro g' L' h' FG' F' N' B' X' T'; (try dsimp only); (try k_lift B'); (try k_fold)))

local macro_rules | `(tactic| walk_at "getAttr ref") => `(tactic| (k_here; (with_reducible show wpAny _ _ (getAttr (Value.ref _) (Str.ofString "type") _) _ _ _); k_dflt ((first | refine' type107_ct (cl := []) ?B ?F ?X ?T ?k ?d ?u ?N ?x ?y ?h ?_ | refine' type135_ct (cl := []) ?B ?F ?X ?T ?k ?d ?u ?N ?x ?y ?h ?_); (case B => k_asm); (case F => k_asm); (case X => k_asm); (case T => k_asm); (case k => first | assumption | rfl); (case d => walk_at "my_depth"); (case u => walk_at "my_units"); (case N => k_asm); (case x => k_mem); (case y => k_mem); (case h => first | assumption | rfl); intro h' tk' F' N')))
local macro_rules | `(tactic| walk_at "getAttr ref") => `(tactic| (k_here; (with_reducible show wpAny _ _ (getAttr (Value.ref _) (Str.ofString "value") _) _ _ _); k_dflt ((first | refine' value107_ct (cl := []) ?B ?F ?X ?T ?k ?d ?u ?N ?x ?y ?h ?_ | refine' value135_ct (cl := []) ?B ?F ?X ?T ?k ?d ?u ?N ?x ?y ?h ?_); (case B => k_asm); (case F => k_asm); (case X => k_asm); (case T => k_asm); (case k => first | assumption | rfl); (case d => walk_at "my_depth"); (case u => walk_at "my_units"); (case N => k_asm); (case x => k_mem); (case y => k_mem); (case h => first | assumption | rfl); intro h' tk' F' N')))
local macro_rules | `(tactic| walk_at "getAttr ref") => `(tactic| (k_here; (with_reducible show wpAny _ _ (getAttr (Value.ref _) (Str.ofString "pos") _) _ _ _); k_dflt (refine' tok_own ?F ?X ?I ?g ?h ?m ?hd ?a ?n ?l ?hh ?_; (case F => k_asm); (case X => k_asm); (case I => k_inst); (case g => k_is); (case h => k_is); (case m => k_is); (case hd => k_is); (case a => k_is); (case n => k_is); (case l => k_get); (case hh => k_handed); k_whole)))
local macro_rules | `(tactic| walk_at "ite") => `(tactic| (k_closed; first | (with_reducible refine my_iteT (by with_unfolding_all rfl) ?_) | (with_reducible refine my_iteF (by with_unfolding_all rfl) ?_)))

local macro_rules | `(tactic| walk_at "call ref") => `(tactic| (k_here; k_dflt ((show wpAny _ _ (call (Value.ref 107) [_, _, _]) _ _ _); (refine' token_ct (outer := []) ?B ?F ?X ?T ?k ?d ?u ?N ?_; (case B => k_asm); (case F => k_asm); (case X => k_asm); (case T => k_asm); (case k => first | assumption | rfl); (case d => first | ktr_room | walk_at "my_depth"); (case u => first | ktr_units | walk_at "my_units"); (case N => k_asm); intro x' xd' hp' tp' h' tk' F' N' n1 n2 n3)); (try dsimp only)))
local macro_rules | `(tactic| walk_at "call ref") => `(tactic| (k_here; k_dflt ((show wpAny _ _ (call (Value.ref 135) [_]) _ _ _); (refine' eof_ct (outer := []) ?B ?F ?X ?T ?k ?d ?u ?N ?_; (case B => k_asm); (case F => k_asm); (case X => k_asm); (case T => k_asm); (case k => first | assumption | rfl); (case d => first | ktr_room | walk_at "my_depth"); (case u => first | ktr_units | walk_at "my_units"); (case N => k_asm); intro x' xd' hp' te' tp' h' tk' F' N' n1 n2 n3)); (try dsimp only)))
local macro_rules | `(tactic| walk_at "call builtin:len") => `(tactic| (k_here; k_dflt (refine' len_N ?N ?m ?c ?d ?k ?s ?_; (case N => k_asm); (case m => k_mem); (case c => rfl); (case d => rfl); (case k => exact refs_size); (case s => omega))))
local macro_rules | `(tactic| walk_at "binaryOp Add ref ref") => `(tactic| (k_here; k_dflt (refine' add_N ?F ?N ?l ?b ?z ?_; (case F => k_asm); (case N => k_asm); (case l => k_mem); (case b => k_mem); (case z => (simp only [refs, List.length_map, List.length_cons, List.length_nil]; omega))); intro x' h' F' N' n1))
local macro_rules | `(tactic| walk_at "call builtin:iter") => `(tactic| (k_here; (with_reducible show wpAny _ _ (call (Value.builtin "iter") [Value.ref _]) _ _ _); k_dflt ((refine' iter_li ?F ?N ?p ?c ?d ?_; (case F => k_asm); (case N => k_asm); (case p => k_mem); (case c => rfl); (case d => rfl); intro I' h' o' F' N' l1 hi'; (try k_lt l1)))))
local macro_rules | `(tactic| walk_at "subscriptTail") => `(tactic| (k_here; (with_reducible show wpAny _ _ (subscriptTail _ _ (Value.ref _) (Value.int (Nat.cast _) _)) _ _ _); k_dflt (refine' item_N ?N ?m ?k ?x ?_ ?s; (case N => k_asm); (case m => k_mem); (case k => omega); (case x => assumption); (case s => with_unfolding_all rfl))))
local macro_rules | `(tactic| walk_at "subscriptTail Name Name ref int") => `(tactic| (k_here; (with_reducible show wpAny _ _ (subscriptTail _ _ (Value.ref _) (Value.int (Nat.cast _) _)) _ _ _); k_dflt (refine' item_N ?N ?m ?k ?x ?_ ?s; (case N => k_asm); (case m => k_mem); (case k => omega); (case x => assumption); (case s => with_unfolding_all rfl))))
local macro_rules | `(tactic| walk_at "subscriptTail") => `(tactic| (k_here; (with_reducible show wpAny _ _ (subscriptTail _ _ (Value.ref _) (Value.int 0 _)) _ _ _); k_dflt (refine' tup0 ?g ?_ ?s; (case g => first | exact Fr.keep (by k_asm) _ _ (by assumption) | exact news_get (by k_asm) (by assumption) | exact news_get (by k_asm) (by k_mem)); (case s => with_unfolding_all rfl))))
local macro_rules | `(tactic| walk_at "subscriptTail Name Constant ref int") => `(tactic| (k_here; (with_reducible show wpAny _ _ (subscriptTail _ _ (Value.ref _) (Value.int 0 _)) _ _ _); k_dflt (refine' tup0 ?g ?_ ?s; (case g => first | exact Fr.keep (by k_asm) _ _ (by assumption) | exact news_get (by k_asm) (by assumption) | exact news_get (by k_asm) (by k_mem)); (case s => with_unfolding_all rfl))))
local macro_rules | `(tactic| walk_at "subscriptTail Subscript Constant ref int") => `(tactic| (k_here; (with_reducible show wpAny _ _ (subscriptTail _ _ (Value.ref _) (Value.int 0 _)) _ _ _); k_dflt (refine' tup0 ?g ?_ ?s; (case g => first | exact Fr.keep (by k_asm) _ _ (by assumption) | exact news_get (by k_asm) (by assumption) | exact news_get (by k_asm) (by k_mem)); (case s => with_unfolding_all rfl))))
local macro_rules | `(tactic| walk_at "subscriptTail") => `(tactic| (k_here; (with_reducible show wpAny _ _ (subscriptTail _ _ (Value.ref _) (Value.int 1 _)) _ _ _); k_dflt (refine' tup1 ?g ?_ ?s; (case g => first | exact Fr.keep (by k_asm) _ _ (by assumption) | exact news_get (by k_asm) (by assumption) | exact news_get (by k_asm) (by k_mem)); (case s => with_unfolding_all rfl))))
local macro_rules | `(tactic| walk_at "subscriptTail Name Constant ref int") => `(tactic| (k_here; (with_reducible show wpAny _ _ (subscriptTail _ _ (Value.ref _) (Value.int 1 _)) _ _ _); k_dflt (refine' tup1 ?g ?_ ?s; (case g => first | exact Fr.keep (by k_asm) _ _ (by assumption) | exact news_get (by k_asm) (by assumption) | exact news_get (by k_asm) (by k_mem)); (case s => with_unfolding_all rfl))))
local macro_rules | `(tactic| walk_at "call ref") => `(tactic| (k_here; k_dflt ((show wpAny _ _ (call (Value.ref 174) [Value.ref _]) _ _ _); (refine' peek_ct (outer := []) ?B ?F ?X ?T ?k ?d ?u ?N ?i ?l ?a ?x ?o1 ?o2 ?o3 ?o4 ?o5 ?o6 ?o7 ?o8 ?o9 ?oa ?ob ?oc ?_; (case B => k_asm); (case F => k_asm); (case X => k_asm); (case T => k_asm); (case k => first | assumption | rfl); (case d => first | ktr_room | walk_at "my_depth"); (case u => first | ktr_units | walk_at "my_units"); (case N => k_asm); (case i => k_asm); (case l => k_mem); (case a => first | assumption | exact at_true (by assumption)); (case x => assumption); (case o1 => assumption); (case o2 => assumption); (case o3 => assumption); (case o4 => assumption); (case o5 => assumption); (case o6 => assumption); (case o7 => assumption); (case o8 => assumption); (case o9 => assumption); (case oa => assumption); (case ob => assumption); (case oc => assumption); intro io' h' tk' F' N' hi')); (try dsimp only)))
local macro_rules | `(tactic| walk_at "getAttr ref") => `(tactic| (k_here; (with_reducible show wpAny _ _ (getAttr (Value.ref _) (Str.ofString "type") _) _ _ _); k_dflt ((refine' type107_ct ?B ?F ?X ?T ?k ?d ?u ?N ?x ?y ?h ?_); (case B => k_asm); (case F => k_asm); (case X => k_asm); (case T => k_asm); (case k => first | assumption | rfl); (case d => first | ktr_room | walk_at "my_depth"); (case u => first | ktr_units | walk_at "my_units"); (case N => k_asm); (case x => k_mem); (case y => k_mem); (case h => first | assumption | rfl); intro h' tk' F' N')))
local macro_rules | `(tactic| walk_at "getAttr ref") => `(tactic| (k_here; (with_reducible show wpAny _ _ (getAttr (Value.ref _) (Str.ofString "type") _) _ _ _); k_dflt ((refine' type135_ct ?B ?F ?X ?T ?k ?d ?u ?N ?x ?y ?h ?_); (case B => k_asm); (case F => k_asm); (case X => k_asm); (case T => k_asm); (case k => first | assumption | rfl); (case d => first | ktr_room | walk_at "my_depth"); (case u => first | ktr_units | walk_at "my_units"); (case N => k_asm); (case x => k_mem); (case y => k_mem); (case h => first | assumption | rfl); intro h' tk' F' N')))
local macro_rules | `(tactic| walk_at "getAttr ref") => `(tactic| (k_here; (with_reducible show wpAny _ _ (getAttr (Value.ref _) (Str.ofString "value") _) _ _ _); k_dflt ((refine' value107_ct ?B ?F ?X ?T ?k ?d ?u ?N ?x ?y ?h ?_); (case B => k_asm); (case F => k_asm); (case X => k_asm); (case T => k_asm); (case k => first | assumption | rfl); (case d => first | ktr_room | walk_at "my_depth"); (case u => first | ktr_units | walk_at "my_units"); (case N => k_asm); (case x => k_mem); (case y => k_mem); (case h => first | assumption | rfl); intro h' tk' F' N')))
local macro_rules | `(tactic| walk_at "getAttr ref") => `(tactic| (k_here; (with_reducible show wpAny _ _ (getAttr (Value.ref _) (Str.ofString "value") _) _ _ _); k_dflt ((refine' value135_ct ?B ?F ?X ?T ?k ?d ?u ?N ?x ?y ?h ?_); (case B => k_asm); (case F => k_asm); (case X => k_asm); (case T => k_asm); (case k => first | assumption | rfl); (case d => first | ktr_room | walk_at "my_depth"); (case u => first | ktr_units | walk_at "my_units"); (case N => k_asm); (case x => k_mem); (case y => k_mem); (case h => first | assumption | rfl); intro h' tk' F' N')))

local macro_rules | `(tactic| walk_at "compareOp NotEq ref ref") => `(tactic| (k_here; k_dflt (refine' ne_tup3 ?N ?a ?b ?x ?y ?u ?_; (case N => k_asm); (case a => k_mem); (case b => k_mem); (case x => first | assumption | decide +kernel); (case y => first | assumption | decide +kernel); (case u => first | ktr_units | walk_at "my_units" | decide))))
local macro_rules | `(tactic| walk_at "compareOp NotEq ref ref") => `(tactic| (k_here; k_dflt (refine' ne_tup3N ?N ?a ?b ?x ?u ?_; (case N => k_asm); (case a => k_mem); (case b => k_mem); (case x => decide +kernel); (case u => first | ktr_units | walk_at "my_units" | decide))))
local macro_rules | `(tactic| walk_at "compareOp NotEq ref ref") => `(tactic| (k_here; k_dflt (refine' ne_pair ?N ?a ?b ?x ?y ?u ?_; (case N => k_asm); (case a => k_mem); (case b => first | exact news_get (by k_asm) (by k_mem) | exact Fr.keep (by k_asm) _ _ (by assumption) | exact news_get (by k_asm) (by assumption)); (case x => first | assumption | decide +kernel); (case y => first | assumption | decide +kernel); (case u => first | ktr_units | walk_at "my_units" | decide))))
local macro_rules | `(tactic| walk_at "compareOp NotEq ref ref") => `(tactic| (k_here; k_dflt (refine' ne_pairN ?N ?a ?b ?x ?u ?_; (case N => k_asm); (case a => k_mem); (case b => first | exact news_get (by k_asm) (by k_mem) | exact Fr.keep (by k_asm) _ _ (by assumption) | exact news_get (by k_asm) (by assumption)); (case x => decide +kernel); (case u => first | ktr_units | walk_at "my_units" | decide))))

local macro_rules | `(tactic| walk_at "call type:tuple") => `(tactic| (k_here; (with_reducible show wpAny _ _ (call (Value.type "tuple") [Value.ref _]) _ _ _); k_dflt ((refine' tup107_N ?h ?d ?f ?u ?F ?X ?N ?T ?_); (case h => rfl); (case d => walk_at "my_depth"); (case f => rfl); (case u => first | ktr_units | walk_at "my_units" | decide); (case F => k_asm); (case X => k_asm); (case N => k_asm); (case T => k_mem); intro y' h' tk' F' N' n1)))
local macro_rules | `(tactic| walk_at "call type:tuple") => `(tactic| (k_here; (with_reducible show wpAny _ _ (call (Value.type "tuple") [Value.ref _]) _ _ _); k_dflt ((refine' tup135_N ?h ?d ?f ?u ?F ?X ?N ?T ?_); (case h => rfl); (case d => walk_at "my_depth"); (case f => rfl); (case u => first | ktr_units | walk_at "my_units" | decide); (case F => k_asm); (case X => k_asm); (case N => k_asm); (case T => k_mem); intro y' h' tk' F' N' n1)))

local macro_rules | `(tactic| walk_at "subscriptTail") => `(tactic| (k_here; (with_reducible show wpAny _ _ (subscriptTail _ (PySem.Expr.Slice _ _ _ _) (Value.ref _) (Value.ref _)) _ _ _); k_dflt (refine' slice_N ?F ?N ?m ?k ?z ?_ ?s ?t; (case F => k_asm); (case N => k_asm); (case m => k_mem); (case k => assumption); (case z => assumption); (case s => with_unfolding_all rfl); (case t => (intro _; with_unfolding_all rfl))); intro D' h' F' N' l1))


theorem pB3 : parts.1.2.2.2.2.2.2.2.2.2.1 := by
  k_with_none
  conv => whnf
  k_fill
  unhygienic intros
  repeat' (first | (exfalso; rename_i hz; with_reducible first | exact bne_absurd hz (by assumption) | exact beq_absurd hz (by assumption) | exact and_absurd hz (by assumption)) | ((with_reducible show MidS _ _ _ _ _ _ _ _ _ _ _ _ _ _ _ _ _ _ _ _ _ _ _); exact mid_end (by k_asm) (by k_asm) (by assumption) (by k_mem) (by k_mem) (by k_mem) (by k_mem) (fun p hp => by simp only [List.mem_cons]; simp [hp]) hat hsp (by with_unfolding_all rfl) (by with_unfolding_all rfl) (by with_unfolding_all rfl)) | (first | (k_unfold; (try dsimp only)) | walk1 | (dsimp only; walk1) | (leave1; walk_say "STEP leave1"; try dsimp only)))
end Mine
end
section
theorem Mine.rst_pB4 : True := by (w_top off); first | (walk1; done) | trivial
set_option maxHeartbeats 100000000
open PySem PySem.W PyProof.Rows PySem.Calls
namespace Mine
local macro_rules | `(tactic| walk_at "eval Name") => `(tactic| (k_here; (fail_if_success k_inBlock); k_dflt (first | (refine' nameX_L ?F ?v ?_ ?a ?b ?d; (case b => kernel_rfl); (case d => kernel_rfl); (case F => k_asm); (case a => rfl); (case v => rfl); k_whole) | (refine' nameX_C ?N ?c ?m ?d ?_ ?a ?b ?e; (case b => kernel_rfl); (case e => kernel_rfl); (case a => rfl); (case N => k_asm); (case c => rfl); (case m => k_mem); (case d => k_asm); k_whole) | (refine' nameX_K ?F ?X ?T ?e ?_ ?a ?b ?d; (case b => kernel_rfl); (case d => kernel_rfl); (case F => k_asm); (case X => k_asm); (case T => k_asm); (case a => rfl); (case e => k_is); k_whole) | (refine' nameX_B ?F ?X ?T ?e ?v ?n ?_ ?a ?b ?d; (case b => kernel_rfl); (case d => kernel_rfl); (case F => k_asm); (case X => k_asm); (case T => k_asm); (case a => rfl); (case e => k_is); (case v => boot_fast); (case n => decide); k_whole))))
local macro_rules | `(tactic| walk_at "storeName") => `(tactic| (k_here; k_dflt (first | (refine' storeX_L ?F ?N ?_ ?a ?b; (case b => kernel_rfl); (case F => k_asm); (case N => k_asm); (case a => rfl); k_whole; intro h' F' N'; (try k_sweep)) | (refine' storeX_C ?F ?N ?c ?U ?d ?_ ?a ?b; (case b => kernel_rfl); (case a => rfl); (case F => k_asm); (case N => k_asm); (case c => rfl); (case U => k_updF); (case d => k_asm); k_whole; intro h' o' F' N' d'; (try dsimp only at N'); (try k_sweep)))))
local macro_rules | `(tactic| walk_at "spliced") => `(tactic| first | with_reducible refine args_cons ?_ (by with_unfolding_all rfl) | with_reducible refine args_nil ⟨Fr.keep (by assumption) _ _ (by assumption), ?_⟩ | (with_reducible refine args_nil ?_; try simp only [List.cons_append, List.nil_append]))
local macro_rules | `(tactic| k_mem) => `(tactic| assumption)
local macro_rules | `(tactic| k_all) => `(tactic| assumption)
local macro_rules | `(tactic| k_ne) => `(tactic| first | assumption | exact Ne.symm (by assumption))
local macro_rules | `(tactic| k_inst) => `(tactic| (refine' instAt_seq ?N ?h1 ?h2; (case N => k_asm); (case h1 => k_mem); (case h2 => k_mem)))
local macro_rules | `(tactic| walk_at "my_depth") => `(tactic| ((try simp only [depth_under_make, depth_under_kw, depth_in1, depth_deeper, depth_caller]); (try dsimp only [ktrTop]); omega))
local macro_rules | `(tactic| walk_at "my_units") => `(tactic| ((try simp only [units_under_make, units_in1, units_deeper, Around.mark_units, units_caller]); (try dsimp only [ktrTop]); omega))
local macro_rules | `(tactic| walk_at "my_enter") => `(tactic| (refine' code_def ?k1 ?k2 ?k3 ?k4 ?k5 ?kA ?kF ?kK ?k6 ?k7 ?k8 ?k9 ?kB ?_ ?c2 ?c3 ?c4 ?c5; (case kA => exact rfl); (case kF => exact rfl); (case kK => first | assumption | exact rfl); (case k1 => k_asm); (case k2 => k_asm); (case k3 => k_asm); (case k4 => k_asm); (case k5 => k_asm); (case k6 => k_is); (case k7 => k_is); (case k8 => ktr_room); (case k9 => exact BindsTo.of_eq rfl); (case c5 => decide); (case kB => exact locs rfl); (case c2 => exact rfl); (case c3 => exact rfl); (case c4 => exact rfl); k_whole; intro g' L' h' FG' F' N' B' X' T'; (try dsimp only); (try k_lift B'); (try k_fold)))

local macro_rules | `(tactic| walk_at "getAttr ref") => `(tactic| (k_here; (with_reducible show wpAny _ _ (getAttr (Value.ref _) (Str.ofString "type") _) _ _ _); k_dflt ((first | refine' type107_ct (cl := []) ?B ?F ?X ?T ?k ?d ?u ?N ?x ?y ?h ?_ | refine' type135_ct (cl := []) ?B ?F ?X ?T ?k ?d ?u ?N ?x ?y ?h ?_); (case B => k_asm); (case F => k_asm); (case X => k_asm); (case T => k_asm); (case k => first | assumption | rfl); (case d => walk_at "my_depth"); (case u => walk_at "my_units"); (case N => k_asm); (case x => k_mem); (case y => k_mem); (case h => first | assumption | rfl); intro h' tk' F' N')))
local macro_rules | `(tactic| walk_at "getAttr ref") => `(tactic| (k_here; (with_reducible show wpAny _ _ (getAttr (Value.ref _) (Str.ofString "value") _) _ _ _); k_dflt ((first | refine' value107_ct (cl := []) ?B ?F ?X ?T ?k ?d ?u ?N ?x ?y ?h ?_ | refine' value135_ct (cl := []) ?B ?F ?X ?T ?k ?d ?u ?N ?x ?y ?h ?_); (case B => k_asm); (case F => k_asm); (case X => k_asm); (case T => k_asm); (case k => first | assumption | rfl); (case d => walk_at "my_depth"); (case u => walk_at "my_units"); (case N => k_asm); (case x => k_mem); (case y => k_mem); (case h => first | assumption | rfl); intro h' tk' F' N')))
local macro_rules | `(tactic| walk_at "getAttr ref") => `(tactic| (k_here; (with_reducible show wpAny _ _ (getAttr (Value.ref _) (Str.ofString "pos") _) _ _ _); k_dflt (refine' tok_own ?F ?X ?I ?g ?h ?m ?hd ?a ?n ?l ?hh ?_; (case F => k_asm); (case X => k_asm); (case I => k_inst); (case g => k_is); (case h => k_is); (case m => k_is); (case hd => k_is); (case a => k_is); (case n => k_is); (case l => k_get); (case hh => k_handed); k_whole)))
local macro_rules | `(tactic| walk_at "ite") => `(tactic| (k_closed; first | (with_reducible refine my_iteT (by with_unfolding_all rfl) ?_) | (with_reducible refine my_iteF (by with_unfolding_all rfl) ?_)))

local macro_rules | `(tactic| walk_at "call ref") => `(tactic| (k_here; k_dflt ((show wpAny _ _ (call (Value.ref 107) [_, _, _]) _ _ _); (refine' token_ct (outer := []) ?B ?F ?X ?T ?k ?d ?u ?N ?_; (case B => k_asm); (case F => k_asm); (case X => k_asm); (case T => k_asm); (case k => first | assumption | rfl); (case d => first | ktr_room | walk_at "my_depth"); (case u => first | ktr_units | walk_at "my_units"); (case N => k_asm); intro x' xd' hp' tp' h' tk' F' N' n1 n2 n3)); (try dsimp only)))
local macro_rules | `(tactic| walk_at "call ref") => `(tactic| (k_here; k_dflt ((show wpAny _ _ (call (Value.ref 135) [_]) _ _ _); (refine' eof_ct (outer := []) ?B ?F ?X ?T ?k ?d ?u ?N ?_; (case B => k_asm); (case F => k_asm); (case X => k_asm); (case T => k_asm); (case k => first | assumption | rfl); (case d => first | ktr_room | walk_at "my_depth"); (case u => first | ktr_units | walk_at "my_units"); (case N => k_asm); intro x' xd' hp' te' tp' h' tk' F' N' n1 n2 n3)); (try dsimp only)))
local macro_rules | `(tactic| walk_at "call builtin:len") => `(tactic| (k_here; k_dflt (refine' len_N ?N ?m ?c ?d ?k ?s ?_; (case N => k_asm); (case m => k_mem); (case c => rfl); (case d => rfl); (case k => exact refs_size); (case s => omega))))
local macro_rules | `(tactic| walk_at "binaryOp Add ref ref") => `(tactic| (k_here; k_dflt (refine' add_N ?F ?N ?l ?b ?z ?_; (case F => k_asm); (case N => k_asm); (case l => k_mem); (case b => k_mem); (case z => (simp only [refs, List.length_map, List.length_cons, List.length_nil]; omega))); intro x' h' F' N' n1))
local macro_rules | `(tactic| walk_at "call builtin:iter") => `(tactic| (k_here; (with_reducible show wpAny _ _ (call (Value.builtin "iter") [Value.ref _]) _ _ _); k_dflt ((refine' iter_li ?F ?N ?p ?c ?d ?_; (case F => k_asm); (case N => k_asm); (case p => k_mem); (case c => rfl); (case d => rfl); intro I' h' o' F' N' l1 hi'; (try k_lt l1)))))
local macro_rules | `(tactic| walk_at "subscriptTail") => `(tactic| (k_here; (with_reducible show wpAny _ _ (subscriptTail _ _ (Value.ref _) (Value.int (Nat.cast _) _)) _ _ _); k_dflt (refine' item_N ?N ?m ?k ?x ?_ ?s; (case N => k_asm); (case m => k_mem); (case k => omega); (case x => assumption); (case s => with_unfolding_all rfl))))
local macro_rules | `(tactic| walk_at "subscriptTail Name Name ref int") => `(tactic| (k_here; (with_reducible show wpAny _ _ (subscriptTail _ _ (Value.ref _) (Value.int (Nat.cast _) _)) _ _ _); k_dflt (refine' item_N ?N ?m ?k ?x ?_ ?s; (case N => k_asm); (case m => k_mem); (case k => omega); (case x => assumption); (case s => with_unfolding_all rfl))))
local macro_rules | `(tactic| walk_at "subscriptTail") => `(tactic| (k_here; (with_reducible show wpAny _ _ (subscriptTail _ _ (Value.ref _) (Value.int 0 _)) _ _ _); k_dflt (refine' tup0 ?g ?_ ?s; (case g => first | exact Fr.keep (by k_asm) _ _ (by assumption) | exact news_get (by k_asm) (by assumption) | exact news_get (by k_asm) (by k_mem)); (case s => with_unfolding_all rfl))))
local macro_rules | `(tactic| walk_at "subscriptTail Name Constant ref int") => `(tactic| (k_here; (with_reducible show wpAny _ _ (subscriptTail _ _ (Value.ref _) (Value.int 0 _)) _ _ _); k_dflt (refine' tup0 ?g ?_ ?s; (case g => first | exact Fr.keep (by k_asm) _ _ (by assumption) | exact news_get (by k_asm) (by assumption) | exact news_get (by k_asm) (by k_mem)); (case s => with_unfolding_all rfl))))
local macro_rules | `(tactic| walk_at "subscriptTail Subscript Constant ref int") => `(tactic| (k_here; (with_reducible show wpAny _ _ (subscriptTail _ _ (Value.ref _) (Value.int 0 _)) _ _ _); k_dflt (refine' tup0 ?g ?_ ?s; (case g => first | exact Fr.keep (by k_asm) _ _ (by assumption) | exact news_get (by k_asm) (by assumption) | exact news_get (by k_asm) (by k_mem)); (case s => with_unfolding_all rfl))))
local macro_rules | `(tactic| walk_at "subscriptTail") => `(tactic| (k_here; (with_reducible show wpAny _ _ (subscriptTail _ _ (Value.ref _) (Value.int 1 _)) _ _ _); k_dflt (refine' tup1 ?g ?_ ?s; (case g => first | exact Fr.keep (by k_asm) _ _ (by assumption) | exact news_get (by k_asm) (by assumption) | exact news_get (by k_asm) (by k_mem)); (case s => with_unfolding_all rfl))))
local macro_rules | `(tactic| walk_at "subscriptTail Name Constant ref int") => `(tactic| (k_here; (with_reducible show wpAny _ _ (subscriptTail _ _ (Value.ref _) (Value.int 1 _)) _ _ _); k_dflt (refine' tup1 ?g ?_ ?s; (case g => first | exact Fr.keep (by k_asm) _ _ (by assumption) | exact news_get (by k_asm) (by assumption) | exact news_get (by k_asm) (by k_mem)); (case s => with_unfolding_all rfl))))
local macro_rules | `(tactic| walk_at "call ref") => `(tactic| (k_here; k_dflt ((show wpAny _ _ (call (Value.ref 174) [Value.ref _]) _ _ _); (refine' peek_ct (outer := []) ?B ?F ?X ?T ?k ?d ?u ?N ?i ?l ?a ?x ?o1 ?o2 ?o3 ?o4 ?o5 ?o6 ?o7 ?o8 ?o9 ?oa ?ob ?oc ?_; (case B => k_asm); (case F => k_asm); (case X => k_asm); (case T => k_asm); (case k => first | assumption | rfl); (case d => first | ktr_room | walk_at "my_depth"); (case u => first | ktr_units | walk_at "my_units"); (case N => k_asm); (case i => k_asm); (case l => k_mem); (case a => first | assumption | exact at_true (by assumption)); (case x => assumption); (case o1 => assumption); (case o2 => assumption); (case o3 => assumption); (case o4 => assumption); (case o5 => assumption); (case o6 => assumption); (case o7 => assumption); (case o8 => assumption); (case o9 => assumption); (case oa => assumption); (case ob => assumption); (case oc => assumption); intro io' h' tk' F' N' hi')); (try dsimp only)))
local macro_rules | `(tactic| walk_at "getAttr ref") => `(tactic| (k_here; (with_reducible show wpAny _ _ (getAttr (Value.ref _) (Str.ofString "type") _) _ _ _); k_dflt ((refine' type107_ct ?B ?F ?X ?T ?k ?d ?u ?N ?x ?y ?h ?_); (case B => k_asm); (case F => k_asm); (case X => k_asm); (case T => k_asm); (case k => first | assumption | rfl); (case d => first | ktr_room | walk_at "my_depth"); (case u => first | ktr_units | walk_at "my_units"); (case N => k_asm); (case x => k_mem); (case y => k_mem); (case h => first | assumption | rfl); intro h' tk' F' N')))
local macro_rules | `(tactic| walk_at "getAttr ref") => `(tactic| (k_here; (with_reducible show wpAny _ _ (getAttr (Value.ref _) (Str.ofString "type") _) _ _ _); k_dflt ((refine' type135_ct ?B ?F ?X ?T ?k ?d ?u ?N ?x ?y ?h ?_); (case B => k_asm); (case F => k_asm); (case X => k_asm); (case T => k_asm); (case k => first | assumption | rfl); (case d => first | ktr_room | walk_at "my_depth"); (case u => first | ktr_units | walk_at "my_units"); (case N => k_asm); (case x => k_mem); (case y => k_mem); (case h => first | assumption | rfl); intro h' tk' F' N')))
local macro_rules | `(tactic| walk_at "getAttr ref") => `(tactic| (k_here; (with_reducible show wpAny _ _ (getAttr (Value.ref _) (Str.ofString "value") _) _ _ _); k_dflt ((refine' value107_ct ?B ?F ?X ?T ?k ?d ?u ?N ?x ?y ?h ?_); (case B => k_asm); (case F => k_asm); (case X => k_asm); (case T => k_asm); (case k => first | assumption | rfl); (case d => first | ktr_room | walk_at "my_depth"); (case u => first | ktr_units | walk_at "my_units"); (case N => k_asm); (case x => k_mem); (case y => k_mem); (case h => first | assumption | rfl); intro h' tk' F' N')))
local macro_rules | `(tactic| walk_at "getAttr ref") => `(tactic| (k_here; (with_reducible show wpAny _ _ (getAttr (Value.ref _) (Str.ofString "value") _) _ _ _); k_dflt ((refine' value135_ct ?B ?F ?X ?T ?k ?d ?u ?N ?x ?y ?h ?_); (case B => k_asm); (case F => k_asm); (case X => k_asm); (case T => k_asm); (case k => first | assumption | rfl); (case d => first | ktr_room | walk_at "my_depth"); (case u => first | ktr_units | walk_at "my_units"); (case N => k_asm); (case x => k_mem); (case y => k_mem); (case h => first | assumption | rfl); intro h' tk' F' N')))

local macro_rules | `(tactic| walk_at "compareOp NotEq ref ref") => `(tactic| (k_here; k_dflt (refine' ne_tup3 ?N ?a ?b ?x ?y ?u ?_; (case N => k_asm); (case a => k_mem); (case b => k_mem); (case x => first | assumption | decide +kernel); (case y => first | assumption | decide +kernel); (case u => first | ktr_units | walk_at "my_units" | decide))))
local macro_rules | `(tactic| walk_at "compareOp NotEq ref ref") => `(tactic| (k_here; k_dflt (refine' ne_tup3N ?N ?a ?b ?x ?u ?_; (case N => k_asm); (case a => k_mem); (case b => k_mem); (case x => decide +kernel); (case u => first | ktr_units | walk_at "my_units" | decide))))
local macro_rules | `(tactic| walk_at "compareOp NotEq ref ref") => `(tactic| (k_here; k_dflt (refine' ne_pair ?N ?a ?b ?x ?y ?u ?_; (case N => k_asm); (case a => k_mem); (case b => first | exact news_get (by k_asm) (by k_mem) | exact Fr.keep (by k_asm) _ _ (by assumption) | exact news_get (by k_asm) (by assumption)); (case x => first | assumption | decide +kernel); (case y => first | assumption | decide +kernel); (case u => first | ktr_units | walk_at "my_units" | decide))))
local macro_rules | `(tactic| walk_at "compareOp NotEq ref ref") => `(tactic| (k_here; k_dflt (refine' ne_pairN ?N ?a ?b ?x ?u ?_; (case N => k_asm); (case a => k_mem); (case b => first | exact news_get (by k_asm) (by k_mem) | exact Fr.keep (by k_asm) _ _ (by assumption) | exact news_get (by k_asm) (by assumption)); (case x => decide +kernel); (case u => first | ktr_units | walk_at "my_units" | decide))))

local macro_rules | `(tactic| walk_at "call type:tuple") => `(tactic| (k_here; (with_reducible show wpAny _ _ (call (Value.type "tuple") [Value.ref _]) _ _ _); k_dflt ((refine' tup107_N ?h ?d ?f ?u ?F ?X ?N ?T ?_); (case h => rfl); (case d => walk_at "my_depth"); (case f => rfl); (case u => first | ktr_units | walk_at "my_units" | decide); (case F => k_asm); (case X => k_asm); (case N => k_asm); (case T => k_mem); intro y' h' tk' F' N' n1)))
local macro_rules | `(tactic| walk_at "call type:tuple") => `(tactic| (k_here; (with_reducible show wpAny _ _ (call (Value.type "tuple") [Value.ref _]) _ _ _); k_dflt ((refine' tup135_N ?h ?d ?f ?u ?F ?X ?N ?T ?_); (case h => rfl); (case d => walk_at "my_depth"); (case f => rfl); (case u => first | ktr_units | walk_at "my_units" | decide); (case F => k_asm); (case X => k_asm); (case N => k_asm); (case T => k_mem); intro y' h' tk' F' N' n1)))

local macro_rules | `(tactic| walk_at "subscriptTail") => `(tactic| (k_here; (with_reducible show wpAny _ _ (subscriptTail _ (PySem.Expr.Slice _ _ _ _) (Value.ref _) (Value.ref _)) _ _ _); k_dflt (refine' slice_N ?F ?N ?m ?k ?z ?_ ?s ?t; (case F => k_asm); (case N => k_asm); (case m => k_mem); (case k => assumption); (case z => assumption); (case s => with_unfolding_all rfl); (case t => (intro _; with_unfolding_all rfl))); intro D' h' F' N' l1))


theorem pB4 : parts.1.2.2.2.2.2.2.2.2.2.2.1 := by
  k_with_none
  conv => whnf
  k_fill
  unhygienic intros
  repeat ((fail_if_success (with_reducible show wpAny _ _ (call (Value.ref 195) _) _ _ _)); (first | (k_unfold; (try dsimp only)) | walk1 | (dsimp only; walk1) | (leave1; walk_say "STEP leave1"; try dsimp only)))
  (k_here; k_dflt (refine' skip_ct ?B_sB ?XB_sB ?TB_sB ?F_sB ?X_sB ?T_sB ?k_sB ?d_sB ?u_sB ?N_sB ?i_sB ?l_sB ?a_sB ?K_sB ?sp_sB ?us_sB ?o1_sB ?o2_sB ?o3_sB ?o4_sB ?o5_sB ?o6_sB ?o7_sB ?o8_sB ?o9_sB ?oa_sB ?ob_sB ?oc_sB ?_; (case B_sB => k_asm); (case F_sB => k_asm); (case X_sB => k_asm); (case T_sB => k_asm); (case k_sB => first | assumption | rfl); (case d_sB => first | ktr_room | walk_at "my_depth"); (case u_sB => first | ktr_units | walk_at "my_units"); (case N_sB => k_asm); (case XB_sB => k_asm); (case TB_sB => k_asm); (case i_sB => exact hli); (case l_sB => exact hTL); (case a_sB => exact hat); (case K_sB => exact KR); (case sp_sB => omega); (case us_sB => rfl); (all_goals (try assumption))); intro io4 pv4 us4 un4 h4 tk4 F4 N4 hi4 hat4 hus4; subst hus4; (try dsimp only))
  repeat ((fail_if_success (with_reducible show wpAny _ _ (exec (Stmt.While _ _ _ _) _) _ _ _)); (first | (k_unfold; (try dsimp only)) | walk1 | (dsimp only; walk1) | (leave1; walk_say "STEP leave1"; try dsimp only)))
  refine whl_start 0 ?_
  refine' whl_W (by k_asm) (by k_asm) S AM (ks.map tbl) ks.length ks.length ?hE_sB (by omega) (by with_unfolding_all rfl) (by with_unfolding_all rfl) (by with_unfolding_all rfl) ?turn_sB
  case hE_sB => first | passes_own | with_unfolding_all passes_own
  case turn_sB =>
  intro sp tS hS tkS mS FS NS hspS hskS
  rcases Nat.lt_or_ge sp ks.length with hltS | hgeS
  · obtain ⟨kS, hkS6, hkkS, hamS, hmkS⟩ := am_at (D := De) hltS hks
    obtain ⟨ts1, ts2, tsn, hdueS⟩ := tbl_inF FS (by assumption) hkS6
    obtain ⟨wa, wb, hww⟩ : ∃ wa wb, tbl kS = (wa, wb) := ⟨_, _, rfl⟩
    rw [hww] at hmkS hdueS
    dsimp only at hmkS hdueS
    repeat' ((fail_if_success (with_reducible show WhlIf _ _ _)); (first | (k_unfold; (try dsimp only)) | walk1 | (dsimp only; walk1) | (leave1; walk_say "STEP leave1"; try dsimp only)))
    cases hwS : wa == Str.ofString "S" with
    | true =>
      refine WhlIf.yes rfl ?_
      repeat' (first | ((with_reducible show WhE _ _ _ _ _ _ _ _ _ _ _); exact whE_next (by k_asm) (by k_asm) hltS hmkS hwS hskS (by with_unfolding_all rfl) (by with_unfolding_all rfl) (by with_unfolding_all rfl)) | (first | (k_unfold; (try dsimp only)) | walk1 | (dsimp only; walk1) | (leave1; walk_say "STEP leave1"; try dsimp only)))
    | false =>
      refine WhlIf.no rfl ?_
      have e4 : skipTo (ks.map tbl) ks.length = sp := hskS.symm.trans (skipTo_other hmkS hwS)
      rw [e4] at NS hi4 hat4
      repeat' (first | ((with_reducible show MidS _ _ _ _ _ _ _ _ _ _ _ _ _ _ _ _ _ _ _ _ _ _ _); exact mid_end (by k_asm) (by k_asm) hi4 (by k_mem) (by k_mem) (by k_mem) (by k_mem) (fun p hp => by simp only [List.mem_cons]; simp [hp]) hat4 hspS (by with_unfolding_all rfl) (by with_unfolding_all rfl) (by with_unfolding_all rfl)) | (first | (k_unfold; (try dsimp only)) | walk1 | (dsimp only; walk1) | (leave1; walk_say "STEP leave1"; try dsimp only)))
  · obtain rfl : sp = ks.length := Nat.le_antisymm hspS hgeS
    have hamS := am_endR (ks := ks) hEO
    have e4 : skipTo (ks.map tbl) ks.length = ks.length := hskS.symm.trans (skipTo_end (by omega))
    rw [e4] at NS hi4 hat4
    repeat' (first | ((with_reducible show MidS _ _ _ _ _ _ _ _ _ _ _ _ _ _ _ _ _ _ _ _ _ _ _); exact mid_end (by k_asm) (by k_asm) hi4 (by k_mem) (by k_mem) (by k_mem) (by k_mem) (fun p hp => by simp only [List.mem_cons]; simp [hp]) hat4 hspS (by with_unfolding_all rfl) (by with_unfolding_all rfl) (by with_unfolding_all rfl)) | (first | (k_unfold; (try dsimp only)) | walk1 | (dsimp only; walk1) | (leave1; walk_say "STEP leave1"; try dsimp only)))
end Mine
end
section
theorem Mine.rst_pD : True := by (w_top off); first | (walk1; done) | trivial
set_option maxHeartbeats 100000000
open PySem PySem.W PyProof.Rows PySem.Calls
namespace Mine
local macro_rules | `(tactic| walk_at "eval Name") => `(tactic| (k_here; (fail_if_success k_inBlock); k_dflt (first | (refine' nameX_L ?F ?v ?_ ?a ?b ?d; (case b => kernel_rfl); (case d => kernel_rfl); (case F => k_asm); (case a => rfl); (case v => rfl); k_whole) | (refine' nameX_C ?N ?c ?m ?d ?_ ?a ?b ?e; (case b => kernel_rfl); (case e => kernel_rfl); (case a => rfl); (case N => k_asm); (case c => rfl); (case m => k_mem); (case d => k_asm); k_whole) | (refine' nameX_K ?F ?X ?T ?e ?_ ?a ?b ?d; (case b => kernel_rfl); (case d => kernel_rfl); (case F => k_asm); (case X => k_asm); (case T => k_asm); (case a => rfl); (case e => k_is); k_whole) | (refine' nameX_B ?F ?X ?T ?e ?v ?n ?_ ?a ?b ?d; (case b => kernel_rfl); (case d => kernel_rfl); (case F => k_asm); (case X => k_asm); (case T => k_asm); (case a => rfl); (case e => k_is); (case v => boot_fast); (case n => decide); k_whole))))
local macro_rules | `(tactic| walk_at "storeName") => `(tactic| (k_here; k_dflt (first | (refine' storeX_L ?F ?N ?_ ?a ?b; (case b => kernel_rfl); (case F => k_asm); (case N => k_asm); (case a => rfl); k_whole; intro h' F' N'; (try k_sweep)) | (refine' storeX_C ?F ?N ?c ?U ?d ?_ ?a ?b; (case b => kernel_rfl); (case a => rfl); (case F => k_asm); (case N => k_asm); (case c => rfl); (case U => k_updF); (case d => k_asm); k_whole; intro h' o' F' N' d'; (try dsimp only at N'); (try k_sweep)))))
local macro_rules | `(tactic| walk_at "spliced") => `(tactic| first | with_reducible refine args_cons ?_ (by with_unfolding_all rfl) | with_reducible refine args_nil ⟨Fr.keep (by assumption) _ _ (by assumption), ?_⟩ | (with_reducible refine args_nil ?_; try simp only [List.cons_append, List.nil_append]))
local macro_rules | `(tactic| k_mem) => `(tactic| assumption)
local macro_rules | `(tactic| k_all) => `(tactic| assumption)
local macro_rules | `(tactic| k_ne) => `(tactic| first | assumption | exact Ne.symm (by assumption))
local macro_rules | `(tactic| k_inst) => `(tactic| (refine' instAt_seq ?N ?h1 ?h2; (case N => k_asm); (case h1 => k_mem); (case h2 => k_mem)))
local macro_rules | `(tactic| walk_at "my_depth") => `(tactic| ((try simp only [depth_under_make, depth_under_kw, depth_in1, depth_deeper, depth_caller]); (try dsimp only [ktrTop]); omega))
local macro_rules | `(tactic| walk_at "my_units") => `(tactic| ((try simp only [units_under_make, units_in1, units_deeper, Around.mark_units, units_caller]); (try dsimp only [ktrTop]); omega))
local macro_rules | `(tactic| walk_at "my_enter") => `(tactic| (refine' code_def ?k1 ?k2 ?k3 ?k4 ?k5 ?kA ?kF ?kK ?k6 ?k7 ?k8 ?k9 ?kB ?_ ?c2 ?c3 ?c4 ?c5; (case kA => exact rfl); (case kF => exact rfl); (case kK => first | assumption | exact rfl); (case k1 => k_asm); (case k2 => k_asm); (case k3 => k_asm); (case k4 => k_asm); (case k5 => k_asm); (case k6 => k_is); (case k7 => k_is); (case k8 => ktr_room); (case k9 => exact BindsTo.of_eq rfl); (case c5 => decide); (case kB => exact locs rfl); (case c2 => exact rfl); (case c3 => exact rfl); (case c4 => exact rfl); k_whole; intro g' L' h' FG' F' N' B' X' T'; (try dsimp only); (try k_lift B'); (try k_fold)))

local macro_rules | `(tactic| walk_at "getAttr ref") => `(tactic| (k_here; (with_reducible show wpAny _ _ (getAttr (Value.ref _) (Str.ofString "type") _) _ _ _); k_dflt ((first | refine' type107_ct (cl := []) ?B ?F ?X ?T ?k ?d ?u ?N ?x ?y ?h ?_ | refine' type135_ct (cl := []) ?B ?F ?X ?T ?k ?d ?u ?N ?x ?y ?h ?_); (case B => k_asm); (case F => k_asm); (case X => k_asm); (case T => k_asm); (case k => first | assumption | rfl); (case d => walk_at "my_depth"); (case u => walk_at "my_units"); (case N => k_asm); (case x => k_mem); (case y => k_mem); (case h => first | assumption | rfl); intro h' tk' F' N')))
local macro_rules | `(tactic| walk_at "getAttr ref") => `(tactic| (k_here; (with_reducible show wpAny _ _ (getAttr (Value.ref _) (Str.ofString "value") _) _ _ _); k_dflt ((first | refine' value107_ct (cl := []) ?B ?F ?X ?T ?k ?d ?u ?N ?x ?y ?h ?_ | refine' value135_ct (cl := []) ?B ?F ?X ?T ?k ?d ?u ?N ?x ?y ?h ?_); (case B => k_asm); (case F => k_asm); (case X => k_asm); (case T => k_asm); (case k => first | assumption | rfl); (case d => walk_at "my_depth"); (case u => walk_at "my_units"); (case N => k_asm); (case x => k_mem); (case y => k_mem); (case h => first | assumption | rfl); intro h' tk' F' N')))
local macro_rules | `(tactic| walk_at "getAttr ref") => `(tactic| (k_here; (with_reducible show wpAny _ _ (getAttr (Value.ref _) (Str.ofString "pos") _) _ _ _); k_dflt (refine' tok_own ?F ?X ?I ?g ?h ?m ?hd ?a ?n ?l ?hh ?_; (case F => k_asm); (case X => k_asm); (case I => k_inst); (case g => k_is); (case h => k_is); (case m => k_is); (case hd => k_is); (case a => k_is); (case n => k_is); (case l => k_get); (case hh => k_handed); k_whole)))
local macro_rules | `(tactic| walk_at "ite") => `(tactic| (k_closed; first | (with_reducible refine my_iteT (by with_unfolding_all rfl) ?_) | (with_reducible refine my_iteF (by with_unfolding_all rfl) ?_)))

local macro_rules | `(tactic| walk_at "call ref") => `(tactic| (k_here; k_dflt ((show wpAny _ _ (call (Value.ref 107) [_, _, _]) _ _ _); (refine' token_ct (outer := []) ?B ?F ?X ?T ?k ?d ?u ?N ?_; (case B => k_asm); (case F => k_asm); (case X => k_asm); (case T => k_asm); (case k => first | assumption | rfl); (case d => first | ktr_room | walk_at "my_depth"); (case u => first | ktr_units | walk_at "my_units"); (case N => k_asm); intro x' xd' hp' tp' h' tk' F' N' n1 n2 n3)); (try dsimp only)))
local macro_rules | `(tactic| walk_at "call ref") => `(tactic| (k_here; k_dflt ((show wpAny _ _ (call (Value.ref 135) [_]) _ _ _); (refine' eof_ct (outer := []) ?B ?F ?X ?T ?k ?d ?u ?N ?_; (case B => k_asm); (case F => k_asm); (case X => k_asm); (case T => k_asm); (case k => first | assumption | rfl); (case d => first | ktr_room | walk_at "my_depth"); (case u => first | ktr_units | walk_at "my_units"); (case N => k_asm); intro x' xd' hp' te' tp' h' tk' F' N' n1 n2 n3)); (try dsimp only)))
local macro_rules | `(tactic| walk_at "call builtin:len") => `(tactic| (k_here; k_dflt (refine' len_N ?N ?m ?c ?d ?k ?s ?_; (case N => k_asm); (case m => k_mem); (case c => rfl); (case d => rfl); (case k => exact refs_size); (case s => omega))))
local macro_rules | `(tactic| walk_at "binaryOp Add ref ref") => `(tactic| (k_here; k_dflt (refine' add_N ?F ?N ?l ?b ?z ?_; (case F => k_asm); (case N => k_asm); (case l => k_mem); (case b => k_mem); (case z => (simp only [refs, List.length_map, List.length_cons, List.length_nil]; omega))); intro x' h' F' N' n1))
local macro_rules | `(tactic| walk_at "call builtin:iter") => `(tactic| (k_here; (with_reducible show wpAny _ _ (call (Value.builtin "iter") [Value.ref _]) _ _ _); k_dflt ((refine' iter_li ?F ?N ?p ?c ?d ?_; (case F => k_asm); (case N => k_asm); (case p => k_mem); (case c => rfl); (case d => rfl); intro I' h' o' F' N' l1 hi'; (try k_lt l1)))))
local macro_rules | `(tactic| walk_at "subscriptTail") => `(tactic| (k_here; (with_reducible show wpAny _ _ (subscriptTail _ _ (Value.ref _) (Value.int (Nat.cast _) _)) _ _ _); k_dflt (refine' item_N ?N ?m ?k ?x ?_ ?s; (case N => k_asm); (case m => k_mem); (case k => omega); (case x => assumption); (case s => with_unfolding_all rfl))))
local macro_rules | `(tactic| walk_at "subscriptTail Name Name ref int") => `(tactic| (k_here; (with_reducible show wpAny _ _ (subscriptTail _ _ (Value.ref _) (Value.int (Nat.cast _) _)) _ _ _); k_dflt (refine' item_N ?N ?m ?k ?x ?_ ?s; (case N => k_asm); (case m => k_mem); (case k => omega); (case x => assumption); (case s => with_unfolding_all rfl))))
local macro_rules | `(tactic| walk_at "subscriptTail") => `(tactic| (k_here; (with_reducible show wpAny _ _ (subscriptTail _ _ (Value.ref _) (Value.int 0 _)) _ _ _); k_dflt (refine' tup0 ?g ?_ ?s; (case g => first | exact Fr.keep (by k_asm) _ _ (by assumption) | exact news_get (by k_asm) (by assumption) | exact news_get (by k_asm) (by k_mem)); (case s => with_unfolding_all rfl))))
local macro_rules | `(tactic| walk_at "subscriptTail Name Constant ref int") => `(tactic| (k_here; (with_reducible show wpAny _ _ (subscriptTail _ _ (Value.ref _) (Value.int 0 _)) _ _ _); k_dflt (refine' tup0 ?g ?_ ?s; (case g => first | exact Fr.keep (by k_asm) _ _ (by assumption) | exact news_get (by k_asm) (by assumption) | exact news_get (by k_asm) (by k_mem)); (case s => with_unfolding_all rfl))))
local macro_rules | `(tactic| walk_at "subscriptTail Subscript Constant ref int") => `(tactic| (k_here; (with_reducible show wpAny _ _ (subscriptTail _ _ (Value.ref _) (Value.int 0 _)) _ _ _); k_dflt (refine' tup0 ?g ?_ ?s; (case g => first | exact Fr.keep (by k_asm) _ _ (by assumption) | exact news_get (by k_asm) (by assumption) | exact news_get (by k_asm) (by k_mem)); (case s => with_unfolding_all rfl))))
local macro_rules | `(tactic| walk_at "subscriptTail") => `(tactic| (k_here; (with_reducible show wpAny _ _ (subscriptTail _ _ (Value.ref _) (Value.int 1 _)) _ _ _); k_dflt (refine' tup1 ?g ?_ ?s; (case g => first | exact Fr.keep (by k_asm) _ _ (by assumption) | exact news_get (by k_asm) (by assumption) | exact news_get (by k_asm) (by k_mem)); (case s => with_unfolding_all rfl))))
local macro_rules | `(tactic| walk_at "subscriptTail Name Constant ref int") => `(tactic| (k_here; (with_reducible show wpAny _ _ (subscriptTail _ _ (Value.ref _) (Value.int 1 _)) _ _ _); k_dflt (refine' tup1 ?g ?_ ?s; (case g => first | exact Fr.keep (by k_asm) _ _ (by assumption) | exact news_get (by k_asm) (by assumption) | exact news_get (by k_asm) (by k_mem)); (case s => with_unfolding_all rfl))))
local macro_rules | `(tactic| walk_at "call ref") => `(tactic| (k_here; k_dflt ((show wpAny _ _ (call (Value.ref 174) [Value.ref _]) _ _ _); (refine' peek_ct (outer := []) ?B ?F ?X ?T ?k ?d ?u ?N ?i ?l ?a ?x ?o1 ?o2 ?o3 ?o4 ?o5 ?o6 ?o7 ?o8 ?o9 ?oa ?ob ?oc ?_; (case B => k_asm); (case F => k_asm); (case X => k_asm); (case T => k_asm); (case k => first | assumption | rfl); (case d => first | ktr_room | walk_at "my_depth"); (case u => first | ktr_units | walk_at "my_units"); (case N => k_asm); (case i => k_asm); (case l => k_mem); (case a => first | assumption | exact at_true (by assumption)); (case x => assumption); (case o1 => assumption); (case o2 => assumption); (case o3 => assumption); (case o4 => assumption); (case o5 => assumption); (case o6 => assumption); (case o7 => assumption); (case o8 => assumption); (case o9 => assumption); (case oa => assumption); (case ob => assumption); (case oc => assumption); intro io' h' tk' F' N' hi')); (try dsimp only)))
local macro_rules | `(tactic| walk_at "getAttr ref") => `(tactic| (k_here; (with_reducible show wpAny _ _ (getAttr (Value.ref _) (Str.ofString "type") _) _ _ _); k_dflt ((refine' type107_ct ?B ?F ?X ?T ?k ?d ?u ?N ?x ?y ?h ?_); (case B => k_asm); (case F => k_asm); (case X => k_asm); (case T => k_asm); (case k => first | assumption | rfl); (case d => first | ktr_room | walk_at "my_depth"); (case u => first | ktr_units | walk_at "my_units"); (case N => k_asm); (case x => k_mem); (case y => k_mem); (case h => first | assumption | rfl); intro h' tk' F' N')))
local macro_rules | `(tactic| walk_at "getAttr ref") => `(tactic| (k_here; (with_reducible show wpAny _ _ (getAttr (Value.ref _) (Str.ofString "type") _) _ _ _); k_dflt ((refine' type135_ct ?B ?F ?X ?T ?k ?d ?u ?N ?x ?y ?h ?_); (case B => k_asm); (case F => k_asm); (case X => k_asm); (case T => k_asm); (case k => first | assumption | rfl); (case d => first | ktr_room | walk_at "my_depth"); (case u => first | ktr_units | walk_at "my_units"); (case N => k_asm); (case x => k_mem); (case y => k_mem); (case h => first | assumption | rfl); intro h' tk' F' N')))
local macro_rules | `(tactic| walk_at "getAttr ref") => `(tactic| (k_here; (with_reducible show wpAny _ _ (getAttr (Value.ref _) (Str.ofString "value") _) _ _ _); k_dflt ((refine' value107_ct ?B ?F ?X ?T ?k ?d ?u ?N ?x ?y ?h ?_); (case B => k_asm); (case F => k_asm); (case X => k_asm); (case T => k_asm); (case k => first | assumption | rfl); (case d => first | ktr_room | walk_at "my_depth"); (case u => first | ktr_units | walk_at "my_units"); (case N => k_asm); (case x => k_mem); (case y => k_mem); (case h => first | assumption | rfl); intro h' tk' F' N')))
local macro_rules | `(tactic| walk_at "getAttr ref") => `(tactic| (k_here; (with_reducible show wpAny _ _ (getAttr (Value.ref _) (Str.ofString "value") _) _ _ _); k_dflt ((refine' value135_ct ?B ?F ?X ?T ?k ?d ?u ?N ?x ?y ?h ?_); (case B => k_asm); (case F => k_asm); (case X => k_asm); (case T => k_asm); (case k => first | assumption | rfl); (case d => first | ktr_room | walk_at "my_depth"); (case u => first | ktr_units | walk_at "my_units"); (case N => k_asm); (case x => k_mem); (case y => k_mem); (case h => first | assumption | rfl); intro h' tk' F' N')))

local macro_rules | `(tactic| walk_at "compareOp NotEq ref ref") => `(tactic| (k_here; k_dflt (refine' ne_tup3 ?N ?a ?b ?x ?y ?u ?_; (case N => k_asm); (case a => k_mem); (case b => k_mem); (case x => first | assumption | decide +kernel); (case y => first | assumption | decide +kernel); (case u => first | ktr_units | walk_at "my_units" | decide))))
local macro_rules | `(tactic| walk_at "compareOp NotEq ref ref") => `(tactic| (k_here; k_dflt (refine' ne_tup3N ?N ?a ?b ?x ?u ?_; (case N => k_asm); (case a => k_mem); (case b => k_mem); (case x => decide +kernel); (case u => first | ktr_units | walk_at "my_units" | decide))))
local macro_rules | `(tactic| walk_at "compareOp NotEq ref ref") => `(tactic| (k_here; k_dflt (refine' ne_pair ?N ?a ?b ?x ?y ?u ?_; (case N => k_asm); (case a => k_mem); (case b => first | exact news_get (by k_asm) (by k_mem) | exact Fr.keep (by k_asm) _ _ (by assumption) | exact news_get (by k_asm) (by assumption)); (case x => first | assumption | decide +kernel); (case y => first | assumption | decide +kernel); (case u => first | ktr_units | walk_at "my_units" | decide))))
local macro_rules | `(tactic| walk_at "compareOp NotEq ref ref") => `(tactic| (k_here; k_dflt (refine' ne_pairN ?N ?a ?b ?x ?u ?_; (case N => k_asm); (case a => k_mem); (case b => first | exact news_get (by k_asm) (by k_mem) | exact Fr.keep (by k_asm) _ _ (by assumption) | exact news_get (by k_asm) (by assumption)); (case x => decide +kernel); (case u => first | ktr_units | walk_at "my_units" | decide))))

local macro_rules | `(tactic| walk_at "call type:tuple") => `(tactic| (k_here; (with_reducible show wpAny _ _ (call (Value.type "tuple") [Value.ref _]) _ _ _); k_dflt ((refine' tup107_N ?h ?d ?f ?u ?F ?X ?N ?T ?_); (case h => rfl); (case d => walk_at "my_depth"); (case f => rfl); (case u => first | ktr_units | walk_at "my_units" | decide); (case F => k_asm); (case X => k_asm); (case N => k_asm); (case T => k_mem); intro y' h' tk' F' N' n1)))
local macro_rules | `(tactic| walk_at "call type:tuple") => `(tactic| (k_here; (with_reducible show wpAny _ _ (call (Value.type "tuple") [Value.ref _]) _ _ _); k_dflt ((refine' tup135_N ?h ?d ?f ?u ?F ?X ?N ?T ?_); (case h => rfl); (case d => walk_at "my_depth"); (case f => rfl); (case u => first | ktr_units | walk_at "my_units" | decide); (case F => k_asm); (case X => k_asm); (case N => k_asm); (case T => k_mem); intro y' h' tk' F' N' n1)))

local macro_rules | `(tactic| walk_at "subscriptTail") => `(tactic| (k_here; (with_reducible show wpAny _ _ (subscriptTail _ (PySem.Expr.Slice _ _ _ _) (Value.ref _) (Value.ref _)) _ _ _); k_dflt (refine' slice_N ?F ?N ?m ?k ?z ?_ ?s ?t; (case F => k_asm); (case N => k_asm); (case m => k_mem); (case k => assumption); (case z => assumption); (case s => with_unfolding_all rfl); (case t => (intro _; with_unfolding_all rfl))); intro D' h' F' N' l1))

local macro_rules | `(tactic| walk_at "compareOp Eq ref ref") => `(tactic| (k_here; k_dflt (refine' eq_pair ?N ?a ?b ?x ?y ?u ?_; (case N => k_asm); (case a => k_mem); (case b => first | exact news_get (by k_asm) (by k_mem) | exact Fr.keep (by k_asm) _ _ (by assumption) | exact news_get (by k_asm) (by assumption)); (case x => assumption); (case y => assumption); (case u => first | ktr_units | walk_at "my_units" | decide))))
local macro_rules | `(tactic| walk_at "compareOp Eq ref ref") => `(tactic| (k_here; k_dflt (refine' eq_pairN ?N ?a ?b ?x ?u ?_; (case N => k_asm); (case a => k_mem); (case b => first | exact news_get (by k_asm) (by k_mem) | exact Fr.keep (by k_asm) _ _ (by assumption) | exact news_get (by k_asm) (by assumption)); (case x => decide +kernel); (case u => first | ktr_units | walk_at "my_units" | decide))))

theorem pD : parts.1.2.2.2.2.2.2.2.2.2.2.2.1 := by
  k_with_none
  conv => whnf
  k_fill
  unhygienic intros
  (rename LJ _ _ _ _ _ _ _ _ _ _ _ _ _ _ _ _ _ _ _ _ _ => hJ9)
  obtain ⟨sp, ts9, io9, i9, pv9, pk9, un9, rfl, hli9, hat9, hsp9, e91, e92, e93⟩ := hJ9
  (rename Fr _ _ _ _ => F9)
  rw [lawMap_eq e91 e92 e93] at F9
  obtain ⟨o1, o2, o3, o4, o5, o6, o7, o8, o9, oa, ob, oc, oS⟩ := AP
  have hn9 : (ks.map tbl).length = ks.length := List.length_map ..
  rcases Nat.lt_or_ge sp ks.length with hlt | hge
  · obtain ⟨kk, hk6, hkk, ham, hmk⟩ := am_at (D := De) hlt hks
    obtain ⟨td1, td2, tdn, hdue⟩ := tbl_inF F9 (by assumption) hk6
    have hok := okp_tbl hk6
    obtain ⟨va, vb, hvv⟩ : ∃ va vb, tbl kk = (va, vb) := ⟨_, _, rfl⟩
    rw [hvv] at hmk hdue hok
    obtain ⟨okx, oky⟩ := hok
    obtain ⟨ta, tad, tva, tvb, tj, tp, hp, hx, hta, htd⟩ := KT.one _ _ _ hmk
    dsimp only at okx oky hdue
    repeat' (first | (k_unfold; (try dsimp only)) | walk1 | (dsimp only; walk1) | (leave1; walk_say "STEP leave1"; try dsimp only))
    all_goals wrow_close
  · obtain rfl : sp = ks.length := Nat.le_antisymm hsp9 hge
    have ham := am_endR (ks := ks) hEO
    have hdue := hEO
    obtain ⟨ta, tad, tva, tj, tp, hp, hx, hta, htd⟩ := KT.eof
    rw [hn9] at hx htd
    repeat' (first | (k_unfold; (try dsimp only)) | walk1 | (dsimp only; walk1) | (leave1; walk_say "STEP leave1"; try dsimp only))
    all_goals wrow_close
end Mine
end
section
theorem Mine.rst_pM1 : True := by (w_top off); first | (walk1; done) | trivial
set_option maxHeartbeats 100000000
open PySem PySem.W PyProof.Rows PySem.Calls
namespace Mine
local macro_rules | `(tactic| walk_at "eval Name") => `(tactic| (k_here; (fail_if_success k_inBlock); k_dflt (first | (refine' nameX_L ?F ?v ?_ ?a ?b ?d; (case b => kernel_rfl); (case d => kernel_rfl); (case F => k_asm); (case a => rfl); (case v => rfl); k_whole) | (refine' nameX_C ?N ?c ?m ?d ?_ ?a ?b ?e; (case b => kernel_rfl); (case e => kernel_rfl); (case a => rfl); (case N => k_asm); (case c => rfl); (case m => k_mem); (case d => k_asm); k_whole) | (refine' nameX_K ?F ?X ?T ?e ?_ ?a ?b ?d; (case b => kernel_rfl); (case d => kernel_rfl); (case F => k_asm); (case X => k_asm); (case T => k_asm); (case a => rfl); (case e => k_is); k_whole) | (refine' nameX_B ?F ?X ?T ?e ?v ?n ?_ ?a ?b ?d; (case b => kernel_rfl); (case d => kernel_rfl); (case F => k_asm); (case X => k_asm); (case T => k_asm); (case a => rfl); (case e => k_is); (case v => boot_fast); (case n => decide); k_whole))))
local macro_rules | `(tactic| walk_at "storeName") => `(tactic| (k_here; k_dflt (first | (refine' storeX_L ?F ?N ?_ ?a ?b; (case b => kernel_rfl); (case F => k_asm); (case N => k_asm); (case a => rfl); k_whole; intro h' F' N'; (try k_sweep)) | (refine' storeX_C ?F ?N ?c ?U ?d ?_ ?a ?b; (case b => kernel_rfl); (case a => rfl); (case F => k_asm); (case N => k_asm); (case c => rfl); (case U => k_updF); (case d => k_asm); k_whole; intro h' o' F' N' d'; (try dsimp only at N'); (try k_sweep)))))
local macro_rules | `(tactic| walk_at "spliced") => `(tactic| first | with_reducible refine args_cons ?_ (by with_unfolding_all rfl) | with_reducible refine args_nil ⟨Fr.keep (by assumption) _ _ (by assumption), ?_⟩ | (with_reducible refine args_nil ?_; try simp only [List.cons_append, List.nil_append]))
local macro_rules | `(tactic| k_mem) => `(tactic| assumption)
local macro_rules | `(tactic| k_all) => `(tactic| assumption)
local macro_rules | `(tactic| k_ne) => `(tactic| first | assumption | exact Ne.symm (by assumption))
local macro_rules | `(tactic| k_inst) => `(tactic| (refine' instAt_seq ?N ?h1 ?h2; (case N => k_asm); (case h1 => k_mem); (case h2 => k_mem)))
local macro_rules | `(tactic| walk_at "my_depth") => `(tactic| ((try simp only [depth_under_make, depth_under_kw, depth_in1, depth_deeper, depth_caller]); (try dsimp only [ktrTop]); omega))
local macro_rules | `(tactic| walk_at "my_units") => `(tactic| ((try simp only [units_under_make, units_in1, units_deeper, Around.mark_units, units_caller]); (try dsimp only [ktrTop]); omega))
local macro_rules | `(tactic| walk_at "my_enter") => `(tactic| (refine' code_def ?k1 ?k2 ?k3 ?k4 ?k5 ?kA ?kF ?kK ?k6 ?k7 ?k8 ?k9 ?kB ?_ ?c2 ?c3 ?c4 ?c5; (case kA => exact rfl); (case kF => exact rfl); (case kK => first | assumption | exact rfl); (case k1 => k_asm); (case k2 => k_asm); (case k3 => k_asm); (case k4 => k_asm); (case k5 => k_asm); (case k6 => k_is); (case k7 => k_is); (case k8 => ktr_room); (case k9 => exact BindsTo.of_eq rfl); (case c5 => decide); (case kB => exact locs rfl); (case c2 => exact rfl); (case c3 => exact rfl); (case c4 => exact rfl); k_whole; intro g' L' h' FG' F' N' B' X' T'; (try dsimp only); (try k_lift B'); (try k_fold)))
local macro_rules | `(tactic| walk_at "getAttr ref") => `(tactic| (k_here; (with_reducible show wpAny _ _ (getAttr (Value.ref _) (Str.ofString "type") _) _ _ _); k_dflt ((first | refine' type107_ct (cl := []) ?B ?F ?X ?T ?k ?d ?u ?N ?x ?y ?h ?_ | refine' type135_ct (cl := []) ?B ?F ?X ?T ?k ?d ?u ?N ?x ?y ?h ?_); (case B => k_asm); (case F => k_asm); (case X => k_asm); (case T => k_asm); (case k => first | assumption | rfl); (case d => walk_at "my_depth"); (case u => walk_at "my_units"); (case N => k_asm); (case x => k_mem); (case y => k_mem); (case h => first | assumption | rfl); intro h' tk' F' N')))
local macro_rules | `(tactic| walk_at "getAttr ref") => `(tactic| (k_here; (with_reducible show wpAny _ _ (getAttr (Value.ref _) (Str.ofString "value") _) _ _ _); k_dflt ((first | refine' value107_ct (cl := []) ?B ?F ?X ?T ?k ?d ?u ?N ?x ?y ?h ?_ | refine' value135_ct (cl := []) ?B ?F ?X ?T ?k ?d ?u ?N ?x ?y ?h ?_); (case B => k_asm); (case F => k_asm); (case X => k_asm); (case T => k_asm); (case k => first | assumption | rfl); (case d => walk_at "my_depth"); (case u => walk_at "my_units"); (case N => k_asm); (case x => k_mem); (case y => k_mem); (case h => first | assumption | rfl); intro h' tk' F' N')))
local macro_rules | `(tactic| walk_at "getAttr ref") => `(tactic| (k_here; (with_reducible show wpAny _ _ (getAttr (Value.ref _) (Str.ofString "pos") _) _ _ _); k_dflt (refine' tok_own ?F ?X ?I ?g ?h ?m ?hd ?a ?n ?l ?hh ?_; (case F => k_asm); (case X => k_asm); (case I => k_inst); (case g => k_is); (case h => k_is); (case m => k_is); (case hd => k_is); (case a => k_is); (case n => k_is); (case l => k_get); (case hh => k_handed); k_whole)))
local macro_rules | `(tactic| walk_at "ite") => `(tactic| (k_closed; first | (with_reducible refine my_iteT (by with_unfolding_all rfl) ?_) | (with_reducible refine my_iteF (by with_unfolding_all rfl) ?_)))

local macro_rules | `(tactic| walk_at "call ref") => `(tactic| (k_here; k_dflt ((show wpAny _ _ (call (Value.ref 107) [_, _, _]) _ _ _); (refine' token_ct (outer := []) ?B ?F ?X ?T ?k ?d ?u ?N ?_; (case B => k_asm); (case F => k_asm); (case X => k_asm); (case T => k_asm); (case k => first | assumption | rfl); (case d => first | ktr_room | walk_at "my_depth"); (case u => first | ktr_units | walk_at "my_units"); (case N => k_asm); intro x' xd' hp' tp' h' tk' F' N' n1 n2 n3)); (try dsimp only)))
local macro_rules | `(tactic| walk_at "call ref") => `(tactic| (k_here; k_dflt ((show wpAny _ _ (call (Value.ref 135) [_]) _ _ _); (refine' eof_ct (outer := []) ?B ?F ?X ?T ?k ?d ?u ?N ?_; (case B => k_asm); (case F => k_asm); (case X => k_asm); (case T => k_asm); (case k => first | assumption | rfl); (case d => first | ktr_room | walk_at "my_depth"); (case u => first | ktr_units | walk_at "my_units"); (case N => k_asm); intro x' xd' hp' te' tp' h' tk' F' N' n1 n2 n3)); (try dsimp only)))
local macro_rules | `(tactic| walk_at "call builtin:len") => `(tactic| (k_here; k_dflt (refine' len_N ?N ?m ?c ?d ?k ?s ?_; (case N => k_asm); (case m => k_mem); (case c => rfl); (case d => rfl); (case k => exact refs_size); (case s => omega))))
local macro_rules | `(tactic| walk_at "binaryOp Add ref ref") => `(tactic| (k_here; k_dflt (refine' add_N ?F ?N ?l ?b ?z ?_; (case F => k_asm); (case N => k_asm); (case l => k_mem); (case b => k_mem); (case z => (simp only [refs, List.length_map, List.length_cons, List.length_nil]; omega))); intro x' h' F' N' n1))
local macro_rules | `(tactic| walk_at "call builtin:iter") => `(tactic| (k_here; (with_reducible show wpAny _ _ (call (Value.builtin "iter") [Value.ref _]) _ _ _); k_dflt ((refine' iter_li ?F ?N ?p ?c ?d ?_; (case F => k_asm); (case N => k_asm); (case p => k_mem); (case c => rfl); (case d => rfl); intro I' h' o' F' N' l1 hi'; (try k_lt l1)))))
local macro_rules | `(tactic| walk_at "subscriptTail") => `(tactic| (k_here; (with_reducible show wpAny _ _ (subscriptTail _ _ (Value.ref _) (Value.int (Nat.cast _) _)) _ _ _); k_dflt (refine' item_N ?N ?m ?k ?x ?_ ?s; (case N => k_asm); (case m => k_mem); (case k => omega); (case x => assumption); (case s => with_unfolding_all rfl))))
local macro_rules | `(tactic| walk_at "subscriptTail Name Name ref int") => `(tactic| (k_here; (with_reducible show wpAny _ _ (subscriptTail _ _ (Value.ref _) (Value.int (Nat.cast _) _)) _ _ _); k_dflt (refine' item_N ?N ?m ?k ?x ?_ ?s; (case N => k_asm); (case m => k_mem); (case k => omega); (case x => assumption); (case s => with_unfolding_all rfl))))
local macro_rules | `(tactic| walk_at "subscriptTail") => `(tactic| (k_here; (with_reducible show wpAny _ _ (subscriptTail _ _ (Value.ref _) (Value.int 0 _)) _ _ _); k_dflt (refine' tup0 ?g ?_ ?s; (case g => first | exact Fr.keep (by k_asm) _ _ (by assumption) | exact news_get (by k_asm) (by assumption) | exact news_get (by k_asm) (by k_mem)); (case s => with_unfolding_all rfl))))
local macro_rules | `(tactic| walk_at "subscriptTail Name Constant ref int") => `(tactic| (k_here; (with_reducible show wpAny _ _ (subscriptTail _ _ (Value.ref _) (Value.int 0 _)) _ _ _); k_dflt (refine' tup0 ?g ?_ ?s; (case g => first | exact Fr.keep (by k_asm) _ _ (by assumption) | exact news_get (by k_asm) (by assumption) | exact news_get (by k_asm) (by k_mem)); (case s => with_unfolding_all rfl))))
local macro_rules | `(tactic| walk_at "subscriptTail Subscript Constant ref int") => `(tactic| (k_here; (with_reducible show wpAny _ _ (subscriptTail _ _ (Value.ref _) (Value.int 0 _)) _ _ _); k_dflt (refine' tup0 ?g ?_ ?s; (case g => first | exact Fr.keep (by k_asm) _ _ (by assumption) | exact news_get (by k_asm) (by assumption) | exact news_get (by k_asm) (by k_mem)); (case s => with_unfolding_all rfl))))
local macro_rules | `(tactic| walk_at "subscriptTail") => `(tactic| (k_here; (with_reducible show wpAny _ _ (subscriptTail _ _ (Value.ref _) (Value.int 1 _)) _ _ _); k_dflt (refine' tup1 ?g ?_ ?s; (case g => first | exact Fr.keep (by k_asm) _ _ (by assumption) | exact news_get (by k_asm) (by assumption) | exact news_get (by k_asm) (by k_mem)); (case s => with_unfolding_all rfl))))
local macro_rules | `(tactic| walk_at "subscriptTail Name Constant ref int") => `(tactic| (k_here; (with_reducible show wpAny _ _ (subscriptTail _ _ (Value.ref _) (Value.int 1 _)) _ _ _); k_dflt (refine' tup1 ?g ?_ ?s; (case g => first | exact Fr.keep (by k_asm) _ _ (by assumption) | exact news_get (by k_asm) (by assumption) | exact news_get (by k_asm) (by k_mem)); (case s => with_unfolding_all rfl))))
local macro_rules | `(tactic| walk_at "call ref") => `(tactic| (k_here; k_dflt ((show wpAny _ _ (call (Value.ref 174) [Value.ref _]) _ _ _); (refine' peek_ct (outer := []) ?B ?F ?X ?T ?k ?d ?u ?N ?i ?l ?a ?x ?o1 ?o2 ?o3 ?o4 ?o5 ?o6 ?o7 ?o8 ?o9 ?oa ?ob ?oc ?_; (case B => k_asm); (case F => k_asm); (case X => k_asm); (case T => k_asm); (case k => first | assumption | rfl); (case d => first | ktr_room | walk_at "my_depth"); (case u => first | ktr_units | walk_at "my_units"); (case N => k_asm); (case i => k_asm); (case l => k_mem); (case a => first | assumption | exact at_true (by assumption)); (case x => assumption); (case o1 => assumption); (case o2 => assumption); (case o3 => assumption); (case o4 => assumption); (case o5 => assumption); (case o6 => assumption); (case o7 => assumption); (case o8 => assumption); (case o9 => assumption); (case oa => assumption); (case ob => assumption); (case oc => assumption); intro io' h' tk' F' N' hi')); (try dsimp only)))
local macro_rules | `(tactic| walk_at "getAttr ref") => `(tactic| (k_here; (with_reducible show wpAny _ _ (getAttr (Value.ref _) (Str.ofString "type") _) _ _ _); k_dflt ((refine' type107_ct ?B ?F ?X ?T ?k ?d ?u ?N ?x ?y ?h ?_); (case B => k_asm); (case F => k_asm); (case X => k_asm); (case T => k_asm); (case k => first | assumption | rfl); (case d => first | ktr_room | walk_at "my_depth"); (case u => first | ktr_units | walk_at "my_units"); (case N => k_asm); (case x => k_mem); (case y => k_mem); (case h => first | assumption | rfl); intro h' tk' F' N')))
local macro_rules | `(tactic| walk_at "getAttr ref") => `(tactic| (k_here; (with_reducible show wpAny _ _ (getAttr (Value.ref _) (Str.ofString "type") _) _ _ _); k_dflt ((refine' type135_ct ?B ?F ?X ?T ?k ?d ?u ?N ?x ?y ?h ?_); (case B => k_asm); (case F => k_asm); (case X => k_asm); (case T => k_asm); (case k => first | assumption | rfl); (case d => first | ktr_room | walk_at "my_depth"); (case u => first | ktr_units | walk_at "my_units"); (case N => k_asm); (case x => k_mem); (case y => k_mem); (case h => first | assumption | rfl); intro h' tk' F' N')))
local macro_rules | `(tactic| walk_at "getAttr ref") => `(tactic| (k_here; (with_reducible show wpAny _ _ (getAttr (Value.ref _) (Str.ofString "value") _) _ _ _); k_dflt ((refine' value107_ct ?B ?F ?X ?T ?k ?d ?u ?N ?x ?y ?h ?_); (case B => k_asm); (case F => k_asm); (case X => k_asm); (case T => k_asm); (case k => first | assumption | rfl); (case d => first | ktr_room | walk_at "my_depth"); (case u => first | ktr_units | walk_at "my_units"); (case N => k_asm); (case x => k_mem); (case y => k_mem); (case h => first | assumption | rfl); intro h' tk' F' N')))
local macro_rules | `(tactic| walk_at "getAttr ref") => `(tactic| (k_here; (with_reducible show wpAny _ _ (getAttr (Value.ref _) (Str.ofString "value") _) _ _ _); k_dflt ((refine' value135_ct ?B ?F ?X ?T ?k ?d ?u ?N ?x ?y ?h ?_); (case B => k_asm); (case F => k_asm); (case X => k_asm); (case T => k_asm); (case k => first | assumption | rfl); (case d => first | ktr_room | walk_at "my_depth"); (case u => first | ktr_units | walk_at "my_units"); (case N => k_asm); (case x => k_mem); (case y => k_mem); (case h => first | assumption | rfl); intro h' tk' F' N')))

theorem pM1 : parts.1.2.2.2.2.2.2.2.2.2.2.2.2.1 := by
  k_with_none
  conv => whnf
  k_fill
  unhygienic intros
  k_with "tree" => simp only [cellF]
  k_with "call ref" => k_call_by "_law_cell" cellF (fun (_ : List Int) (i : Int) => 0 ≤ i)
  repeat' (first | (((try dsimp only); (with_reducible show ∃ (h' : Heap), _)); first | exact ⟨_, _, [], rfl, by assumption, by assumption, j.snoc (k := 0) (by decide)⟩ | exact ⟨_, _, [], rfl, by assumption, by assumption, j.snoc (k := 1) (by decide)⟩ | exact ⟨_, _, [], rfl, by assumption, by assumption, j.snoc (k := 2) (by decide)⟩ | exact ⟨_, _, [], rfl, by assumption, by assumption, j.snoc (k := 3) (by decide)⟩ | exact ⟨_, _, [], rfl, by assumption, by assumption, j.snoc (k := 4) (by decide)⟩ | exact ⟨_, _, [], rfl, by assumption, by assumption, j.snoc (k := 5) (by decide)⟩) | (first | (k_unfold; (try dsimp only)) | walk1 | (dsimp only; walk1) | (leave1; walk_say "STEP leave1"; try dsimp only)))
end Mine
end
section
theorem Mine.rst_pM2 : True := by (w_top off); first | (walk1; done) | trivial
set_option maxHeartbeats 100000000
open PySem PySem.W PyProof.Rows PySem.Calls
namespace Mine
local macro_rules | `(tactic| walk_at "eval Name") => `(tactic| (k_here; (fail_if_success k_inBlock); k_dflt (first | (refine' nameX_L ?F ?v ?_ ?a ?b ?d; (case b => kernel_rfl); (case d => kernel_rfl); (case F => k_asm); (case a => rfl); (case v => rfl); k_whole) | (refine' nameX_C ?N ?c ?m ?d ?_ ?a ?b ?e; (case b => kernel_rfl); (case e => kernel_rfl); (case a => rfl); (case N => k_asm); (case c => rfl); (case m => k_mem); (case d => k_asm); k_whole) | (refine' nameX_K ?F ?X ?T ?e ?_ ?a ?b ?d; (case b => kernel_rfl); (case d => kernel_rfl); (case F => k_asm); (case X => k_asm); (case T => k_asm); (case a => rfl); (case e => k_is); k_whole) | (refine' nameX_B ?F ?X ?T ?e ?v ?n ?_ ?a ?b ?d; (case b => kernel_rfl); (case d => kernel_rfl); (case F => k_asm); (case X => k_asm); (case T => k_asm); (case a => rfl); (case e => k_is); (case v => boot_fast); (case n => decide); k_whole))))
local macro_rules | `(tactic| walk_at "storeName") => `(tactic| (k_here; k_dflt (first | (refine' storeX_L ?F ?N ?_ ?a ?b; (case b => kernel_rfl); (case F => k_asm); (case N => k_asm); (case a => rfl); k_whole; intro h' F' N'; (try k_sweep)) | (refine' storeX_C ?F ?N ?c ?U ?d ?_ ?a ?b; (case b => kernel_rfl); (case a => rfl); (case F => k_asm); (case N => k_asm); (case c => rfl); (case U => k_updF); (case d => k_asm); k_whole; intro h' o' F' N' d'; (try dsimp only at N'); (try k_sweep)))))
local macro_rules | `(tactic| walk_at "spliced") => `(tactic| first | with_reducible refine args_cons ?_ (by with_unfolding_all rfl) | with_reducible refine args_nil ⟨Fr.keep (by assumption) _ _ (by assumption), ?_⟩ | (with_reducible refine args_nil ?_; try simp only [List.cons_append, List.nil_append]))
local macro_rules | `(tactic| k_mem) => `(tactic| assumption)
local macro_rules | `(tactic| k_all) => `(tactic| assumption)
local macro_rules | `(tactic| k_ne) => `(tactic| first | assumption | exact Ne.symm (by assumption))
local macro_rules | `(tactic| k_inst) => `(tactic| (refine' instAt_seq ?N ?h1 ?h2; (case N => k_asm); (case h1 => k_mem); (case h2 => k_mem)))
local macro_rules | `(tactic| walk_at "my_depth") => `(tactic| ((try simp only [depth_under_make, depth_under_kw, depth_in1, depth_deeper, depth_caller]); (try dsimp only [ktrTop]); omega))
local macro_rules | `(tactic| walk_at "my_units") => `(tactic| ((try simp only [units_under_make, units_in1, units_deeper, Around.mark_units, units_caller]); (try dsimp only [ktrTop]); omega))
local macro_rules | `(tactic| walk_at "my_enter") => `(tactic| (refine' code_def ?k1 ?k2 ?k3 ?k4 ?k5 ?kA ?kF ?kK ?k6 ?k7 ?k8 ?k9 ?kB ?_ ?c2 ?c3 ?c4 ?c5; (case kA => exact rfl); (case kF => exact rfl); (case kK => first | assumption | exact rfl); (case k1 => k_asm); (case k2 => k_asm); (case k3 => k_asm); (case k4 => k_asm); (case k5 => k_asm); (case k6 => k_is); (case k7 => k_is); (case k8 => ktr_room); (case k9 => exact BindsTo.of_eq rfl); (case c5 => decide); (case kB => exact locs rfl); (case c2 => exact rfl); (case c3 => exact rfl); (case c4 => exact rfl); k_whole; intro g' L' h' FG' F' N' B' X' T'; (try dsimp only); (try k_lift B'); (try k_fold)))
local macro_rules | `(tactic| walk_at "getAttr ref") => `(tactic| (k_here; (with_reducible show wpAny _ _ (getAttr (Value.ref _) (Str.ofString "type") _) _ _ _); k_dflt ((first | refine' type107_ct (cl := []) ?B ?F ?X ?T ?k ?d ?u ?N ?x ?y ?h ?_ | refine' type135_ct (cl := []) ?B ?F ?X ?T ?k ?d ?u ?N ?x ?y ?h ?_); (case B => k_asm); (case F => k_asm); (case X => k_asm); (case T => k_asm); (case k => first | assumption | rfl); (case d => walk_at "my_depth"); (case u => walk_at "my_units"); (case N => k_asm); (case x => k_mem); (case y => k_mem); (case h => first | assumption | rfl); intro h' tk' F' N')))
local macro_rules | `(tactic| walk_at "getAttr ref") => `(tactic| (k_here; (with_reducible show wpAny _ _ (getAttr (Value.ref _) (Str.ofString "value") _) _ _ _); k_dflt ((first | refine' value107_ct (cl := []) ?B ?F ?X ?T ?k ?d ?u ?N ?x ?y ?h ?_ | refine' value135_ct (cl := []) ?B ?F ?X ?T ?k ?d ?u ?N ?x ?y ?h ?_); (case B => k_asm); (case F => k_asm); (case X => k_asm); (case T => k_asm); (case k => first | assumption | rfl); (case d => walk_at "my_depth"); (case u => walk_at "my_units"); (case N => k_asm); (case x => k_mem); (case y => k_mem); (case h => first | assumption | rfl); intro h' tk' F' N')))
local macro_rules | `(tactic| walk_at "getAttr ref") => `(tactic| (k_here; (with_reducible show wpAny _ _ (getAttr (Value.ref _) (Str.ofString "pos") _) _ _ _); k_dflt (refine' tok_own ?F ?X ?I ?g ?h ?m ?hd ?a ?n ?l ?hh ?_; (case F => k_asm); (case X => k_asm); (case I => k_inst); (case g => k_is); (case h => k_is); (case m => k_is); (case hd => k_is); (case a => k_is); (case n => k_is); (case l => k_get); (case hh => k_handed); k_whole)))
local macro_rules | `(tactic| walk_at "ite") => `(tactic| (k_closed; first | (with_reducible refine my_iteT (by with_unfolding_all rfl) ?_) | (with_reducible refine my_iteF (by with_unfolding_all rfl) ?_)))

local macro_rules | `(tactic| walk_at "call ref") => `(tactic| (k_here; k_dflt ((show wpAny _ _ (call (Value.ref 107) [_, _, _]) _ _ _); (refine' token_ct (outer := []) ?B ?F ?X ?T ?k ?d ?u ?N ?_; (case B => k_asm); (case F => k_asm); (case X => k_asm); (case T => k_asm); (case k => first | assumption | rfl); (case d => first | ktr_room | walk_at "my_depth"); (case u => first | ktr_units | walk_at "my_units"); (case N => k_asm); intro x' xd' hp' tp' h' tk' F' N' n1 n2 n3)); (try dsimp only)))
local macro_rules | `(tactic| walk_at "call ref") => `(tactic| (k_here; k_dflt ((show wpAny _ _ (call (Value.ref 135) [_]) _ _ _); (refine' eof_ct (outer := []) ?B ?F ?X ?T ?k ?d ?u ?N ?_; (case B => k_asm); (case F => k_asm); (case X => k_asm); (case T => k_asm); (case k => first | assumption | rfl); (case d => first | ktr_room | walk_at "my_depth"); (case u => first | ktr_units | walk_at "my_units"); (case N => k_asm); intro x' xd' hp' te' tp' h' tk' F' N' n1 n2 n3)); (try dsimp only)))
local macro_rules | `(tactic| walk_at "call builtin:len") => `(tactic| (k_here; k_dflt (refine' len_N ?N ?m ?c ?d ?k ?s ?_; (case N => k_asm); (case m => k_mem); (case c => rfl); (case d => rfl); (case k => exact refs_size); (case s => omega))))
local macro_rules | `(tactic| walk_at "binaryOp Add ref ref") => `(tactic| (k_here; k_dflt (refine' add_N ?F ?N ?l ?b ?z ?_; (case F => k_asm); (case N => k_asm); (case l => k_mem); (case b => k_mem); (case z => (simp only [refs, List.length_map, List.length_cons, List.length_nil]; omega))); intro x' h' F' N' n1))
local macro_rules | `(tactic| walk_at "call builtin:iter") => `(tactic| (k_here; (with_reducible show wpAny _ _ (call (Value.builtin "iter") [Value.ref _]) _ _ _); k_dflt ((refine' iter_li ?F ?N ?p ?c ?d ?_; (case F => k_asm); (case N => k_asm); (case p => k_mem); (case c => rfl); (case d => rfl); intro I' h' o' F' N' l1 hi'; (try k_lt l1)))))
local macro_rules | `(tactic| walk_at "subscriptTail") => `(tactic| (k_here; (with_reducible show wpAny _ _ (subscriptTail _ _ (Value.ref _) (Value.int (Nat.cast _) _)) _ _ _); k_dflt (refine' item_N ?N ?m ?k ?x ?_ ?s; (case N => k_asm); (case m => k_mem); (case k => omega); (case x => assumption); (case s => with_unfolding_all rfl))))
local macro_rules | `(tactic| walk_at "subscriptTail Name Name ref int") => `(tactic| (k_here; (with_reducible show wpAny _ _ (subscriptTail _ _ (Value.ref _) (Value.int (Nat.cast _) _)) _ _ _); k_dflt (refine' item_N ?N ?m ?k ?x ?_ ?s; (case N => k_asm); (case m => k_mem); (case k => omega); (case x => assumption); (case s => with_unfolding_all rfl))))
local macro_rules | `(tactic| walk_at "subscriptTail") => `(tactic| (k_here; (with_reducible show wpAny _ _ (subscriptTail _ _ (Value.ref _) (Value.int 0 _)) _ _ _); k_dflt (refine' tup0 ?g ?_ ?s; (case g => first | exact Fr.keep (by k_asm) _ _ (by assumption) | exact news_get (by k_asm) (by assumption) | exact news_get (by k_asm) (by k_mem)); (case s => with_unfolding_all rfl))))
local macro_rules | `(tactic| walk_at "subscriptTail Name Constant ref int") => `(tactic| (k_here; (with_reducible show wpAny _ _ (subscriptTail _ _ (Value.ref _) (Value.int 0 _)) _ _ _); k_dflt (refine' tup0 ?g ?_ ?s; (case g => first | exact Fr.keep (by k_asm) _ _ (by assumption) | exact news_get (by k_asm) (by assumption) | exact news_get (by k_asm) (by k_mem)); (case s => with_unfolding_all rfl))))
local macro_rules | `(tactic| walk_at "subscriptTail Subscript Constant ref int") => `(tactic| (k_here; (with_reducible show wpAny _ _ (subscriptTail _ _ (Value.ref _) (Value.int 0 _)) _ _ _); k_dflt (refine' tup0 ?g ?_ ?s; (case g => first | exact Fr.keep (by k_asm) _ _ (by assumption) | exact news_get (by k_asm) (by assumption) | exact news_get (by k_asm) (by k_mem)); (case s => with_unfolding_all rfl))))
local macro_rules | `(tactic| walk_at "subscriptTail") => `(tactic| (k_here; (with_reducible show wpAny _ _ (subscriptTail _ _ (Value.ref _) (Value.int 1 _)) _ _ _); k_dflt (refine' tup1 ?g ?_ ?s; (case g => first | exact Fr.keep (by k_asm) _ _ (by assumption) | exact news_get (by k_asm) (by assumption) | exact news_get (by k_asm) (by k_mem)); (case s => with_unfolding_all rfl))))
local macro_rules | `(tactic| walk_at "subscriptTail Name Constant ref int") => `(tactic| (k_here; (with_reducible show wpAny _ _ (subscriptTail _ _ (Value.ref _) (Value.int 1 _)) _ _ _); k_dflt (refine' tup1 ?g ?_ ?s; (case g => first | exact Fr.keep (by k_asm) _ _ (by assumption) | exact news_get (by k_asm) (by assumption) | exact news_get (by k_asm) (by k_mem)); (case s => with_unfolding_all rfl))))
local macro_rules | `(tactic| walk_at "call ref") => `(tactic| (k_here; k_dflt ((show wpAny _ _ (call (Value.ref 174) [Value.ref _]) _ _ _); (refine' peek_ct (outer := []) ?B ?F ?X ?T ?k ?d ?u ?N ?i ?l ?a ?x ?o1 ?o2 ?o3 ?o4 ?o5 ?o6 ?o7 ?o8 ?o9 ?oa ?ob ?oc ?_; (case B => k_asm); (case F => k_asm); (case X => k_asm); (case T => k_asm); (case k => first | assumption | rfl); (case d => first | ktr_room | walk_at "my_depth"); (case u => first | ktr_units | walk_at "my_units"); (case N => k_asm); (case i => k_asm); (case l => k_mem); (case a => first | assumption | exact at_true (by assumption)); (case x => assumption); (case o1 => assumption); (case o2 => assumption); (case o3 => assumption); (case o4 => assumption); (case o5 => assumption); (case o6 => assumption); (case o7 => assumption); (case o8 => assumption); (case o9 => assumption); (case oa => assumption); (case ob => assumption); (case oc => assumption); intro io' h' tk' F' N' hi')); (try dsimp only)))
local macro_rules | `(tactic| walk_at "getAttr ref") => `(tactic| (k_here; (with_reducible show wpAny _ _ (getAttr (Value.ref _) (Str.ofString "type") _) _ _ _); k_dflt ((refine' type107_ct ?B ?F ?X ?T ?k ?d ?u ?N ?x ?y ?h ?_); (case B => k_asm); (case F => k_asm); (case X => k_asm); (case T => k_asm); (case k => first | assumption | rfl); (case d => first | ktr_room | walk_at "my_depth"); (case u => first | ktr_units | walk_at "my_units"); (case N => k_asm); (case x => k_mem); (case y => k_mem); (case h => first | assumption | rfl); intro h' tk' F' N')))
local macro_rules | `(tactic| walk_at "getAttr ref") => `(tactic| (k_here; (with_reducible show wpAny _ _ (getAttr (Value.ref _) (Str.ofString "type") _) _ _ _); k_dflt ((refine' type135_ct ?B ?F ?X ?T ?k ?d ?u ?N ?x ?y ?h ?_); (case B => k_asm); (case F => k_asm); (case X => k_asm); (case T => k_asm); (case k => first | assumption | rfl); (case d => first | ktr_room | walk_at "my_depth"); (case u => first | ktr_units | walk_at "my_units"); (case N => k_asm); (case x => k_mem); (case y => k_mem); (case h => first | assumption | rfl); intro h' tk' F' N')))
local macro_rules | `(tactic| walk_at "getAttr ref") => `(tactic| (k_here; (with_reducible show wpAny _ _ (getAttr (Value.ref _) (Str.ofString "value") _) _ _ _); k_dflt ((refine' value107_ct ?B ?F ?X ?T ?k ?d ?u ?N ?x ?y ?h ?_); (case B => k_asm); (case F => k_asm); (case X => k_asm); (case T => k_asm); (case k => first | assumption | rfl); (case d => first | ktr_room | walk_at "my_depth"); (case u => first | ktr_units | walk_at "my_units"); (case N => k_asm); (case x => k_mem); (case y => k_mem); (case h => first | assumption | rfl); intro h' tk' F' N')))
local macro_rules | `(tactic| walk_at "getAttr ref") => `(tactic| (k_here; (with_reducible show wpAny _ _ (getAttr (Value.ref _) (Str.ofString "value") _) _ _ _); k_dflt ((refine' value135_ct ?B ?F ?X ?T ?k ?d ?u ?N ?x ?y ?h ?_); (case B => k_asm); (case F => k_asm); (case X => k_asm); (case T => k_asm); (case k => first | assumption | rfl); (case d => first | ktr_room | walk_at "my_depth"); (case u => first | ktr_units | walk_at "my_units"); (case N => k_asm); (case x => k_mem); (case y => k_mem); (case h => first | assumption | rfl); intro h' tk' F' N')))

theorem pM2 : parts.1.2.2.2.2.2.2.2.2.2.2.2.2.2 := by
  k_with_none
  conv => whnf
  k_fill
  unhygienic intros
  have hn6 := hks n (List.mem_of_getElem? hn)
  obtain ⟨td1, td2, tdn, hdue⟩ := tbl_inF F (by assumption) hn6
  obtain ⟨va, vb, hvv⟩ : ∃ va vb, tbl n = (va, vb) := ⟨_, _, rfl⟩
  rw [hvv] at hdue
  dsimp only at hdue
  repeat' (first | (((try dsimp only); (with_reducible show ∃ (h' : Heap), _)); exact ⟨_, _, [(_, _), (_, _)], rfl, by assumption, by assumption, own_off (by assumption) (by assumption), j.snoc hyl hn hvv⟩) | (first | (k_unfold; (try dsimp only)) | walk1 | (dsimp only; walk1) | (leave1; walk_say "STEP leave1"; try dsimp only)))
end Mine
end
theorem PySem.Challenge.cw_ez0041_01_holds : PySem.Challenge.rw_ez0041_01.Holds := by
  exact Mine.parts.2 ⟨Mine.pT, Mine.pA0, Mine.pA1, Mine.pA2, Mine.pA3, Mine.pA4, Mine.pB0, Mine.pB1, Mine.pB2, Mine.pB3, Mine.pB4, Mine.pD, Mine.pM1, Mine.pM2⟩
