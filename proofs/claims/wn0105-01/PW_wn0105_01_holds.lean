import PyProof.Rows.All
import Wide.All
import OpenK.AllK
import Wide.FinOn
import Lean
import PySem.Challenge.RW_wn0105_01
set_option Elab.async false
section
open PySem PySem.W PyProof.Rows
set_option maxRecDepth 100000
namespace Mine
/-- the top without the rows that only say the file's name -/
def view : Program := { PySem.Challenge.pw_wn0105_01 with main := { PySem.Challenge.pw_wn0105_01.main with body := [0, 2, 4, 5, 6, 7, 9, 10, 11, 12, 13, 14].filterMap (PySem.Challenge.pw_wn0105_01.main.body[·]?) } }
theorem pw_open : ∀ w : World, (fencedOpening treeTable PySem.Challenge.pw_wn0105_01 w 3270).map (fun s => (s.heap, s.gens, s.drawn, s.toks)) = some (boot_heap w.params, Array.mk [], boot_drawn, boot_toks) :=
  boot_open rfl rfl (fun _ => rfl)
theorem left_of {α : Type} {p q : Program} {loose : List Str} {Xt : Shared → Bool} {Yf : Shared → α} {Ya : World → α} {N : Nat}
    (open_ : ∀ w : World, (fencedOpening treeTable p w N).map (fun s => (s.heap, s.gens, s.drawn, s.toks)) = some (boot_heap w.params, Array.mk [], boot_drawn, boot_toks))
    (run : ∀ (w : World) (os : OsState), (topFrom treeTable p w N ⟨boot_heap w.params, Array.mk [], boot_drawn, boot_toks, os⟩).map (fun s => (openSeen q loose (importedModules p.main.body) Xt true s, Yf s)) = some (openGood q loose, Ya w)) : LeftO p q loose Xt Yf Ya N := fun w => by
  obtain ⟨⟨h, gs, d, k, os⟩, e, e'⟩ := Option.map_eq_some_iff.mp (open_ w)
  obtain ⟨rfl, rfl, rfl, rfl⟩ : h = boot_heap w.params ∧ gs = Array.mk [] ∧ d = boot_drawn ∧ k = boot_toks := by simpa using e'
  unfold openEnds
  rw [e]
  exact run w os
theorem said : OpenLaw.wellSaid PySem.Challenge.rw_wn0105_01 = true := by kernel_rfl!
end Mine
section
local macro_rules | `(tactic| o_head (kHook $k $a $e)) => `(tactic| (
    refine holds_open (q := Mine.view) (loose := [PySem.Str.ofString "_Accumulator"]) (Xt := fun s => xlAt Mine.view [] s && recOk (RowW.records (OpenRow.toRowW PySem.Challenge.rw_wn0105_01.row)) s) (XP := XL Mine.view []) (Yf := Hook.obs (kmHook $k $a $e [182, 189])) (Ya := Hook.val (kmHook $k $a $e [182, 189])) (YP := Hook.says (kmHook $k $a $e [182, 189])) (N := 3270) ?hl (Hook.of (kmHook $k $a $e [182, 189])) (Hook.keeps (kmHook $k $a $e [182, 189])) (fun s e => xl_of s (Bool.and_eq_true_iff.mp e).1) XL.keeps (by rfl) (by rfl) (by rfl) (fun s e => recFacts_of (Bool.and_eq_true_iff.mp e).2) (by rfl) (by first | assumption | decide +kernel) (by decide +kernel) ⟨rfl, rfl, rfl, rfl, rfl, by decide +kernel⟩ ?hw ?hc
    case hl =>
      refine Mine.left_of (p := PySem.Challenge.pw_wn0105_01) Mine.pw_open ?_
      intro w os
      unfold topFrom
      rw [PySem.W.Fast.te14082659384304107361, PySem.W.Fast.te4187177175401517315, PySem.W.Fast.te14364793385576792824, PySem.W.Fast.te5923862056798008813, PySem.W.Fast.te8920871248978507458]
      kernel_rfl!))
local macro_rules | `(tactic| o_law) => `(tactic| refine holds_law Mine.said fun _ => ?_)
set_option maxHeartbeats 8000000 in
open_top Mine.hd for PySem.Challenge.rw_wn0105_01
end
end
section
open PySem PySem.W PyProof.Rows PySem.Calls PySem.Spec
set_option maxRecDepth 100000
namespace Mine
/-- an object of a list's subclass -/
abbrev accO (dx : Addr) (its : Array Value) (n : Nat) : Obj := ⟨.ref 220, some dx, .seq its n, #[]⟩

theorem InstAt.ofAcc {h₀ h : Heap} {L x dx : Addr} {news : List (Addr × Obj)} {od : Obj} {its : Array Value} {n : Nat} (N : News h₀ L h news) (h1 : (x, accO dx its n) ∈ news) (h2 : (dx, od) ∈ news) :
    InstAt h x (accO dx its n) 220 (some od) := ⟨(N _ h1).1, rfl, rfl, (N _ h2).1⟩

section
variable {prog : Program} {w : World} {A : Around} {E : Value → Shared → Prop} {s : Shared} {K : Frag} {x C : Addr} {ox : Obj} {od : Option Obj} {name : PySem.Str} {h₀ : Heap} {L : Addr} {m : PySem.Str → Option Value} {news news' : List (Addr × Obj)}

theorem canon_lga : Manifest.canonical "list.__getattribute__" = "object.__getattribute__" := by decide +kernel

/-- a method of the class's own, on a list's subclass -/
theorem method_fnL {pl : Sem Bool} {Q : Value × List Value → Shared → Prop} {f : Addr} (X : K.In s.heap) (I : InstAt s.heap x ox C od) (hga : findIn K (.ref C) "__getattribute__" = some (some (.builtin "list.__getattribute__"))) (hk : findIn K (.ref C) "__getattr__" = some none)
    (hf : findIn K (.ref C) name = some (some (.ref f))) (ht : typeIn K (.ref f) = some (.type "function")) (hs : shadowIn od name = some false) (h : Q (.ref f, [.ref x]) s) :
    wpAny (model prog w) A (getMethod (.ref x) name pl) Q E s := by
  have hcan := canon_lga
  unfold getMethod specialOf
  refine wpAny_bind (wpAny_bind (I.type.here ((looks_findIn X hga).here ?_)))
  dsimp only
  rw [hcan, if_neg (by decide)]
  refine wpAny_bind (wpAny_bind (I.type.here ((looks_findIn X hk).here ?_)))
  refine wpAny_bind (wpAny_bind (I.type.here ((looks_findIn X hf).here (wpAny_bind ((looks_typeIn X ht).here ?_)))))
  rw [if_neg (by decide +kernel)]
  refine wpAny_bind (wpAny_loadPart I.at_ ?_)
  have hd := I.dict
  cases e : ox.dict with
  | none => exact wpAny_bind (wpAny_rule (wpAny_pure h))
  | some dx =>
    cases od with
    | none => rw [e] at hd; exact hd.elim
    | some o =>
      rw [e] at hd
      obtain ⟨r, a, b⟩ := Option.map_eq_some_iff.mp hs
      refine wpAny_bind (wpAny_bind (wpAny_loadPart hd ?_))
      rw [nsLook_of a]
      refine wpAny_pure ?_
      rw [b]
      exact wpAny_bind (wpAny_rule (wpAny_pure h))
/-- a method of the builtin base -/
theorem method_biL {pl : Sem Bool} {Q : Value × List Value → Shared → Prop} {f : String} (X : K.In s.heap) (I : InstAt s.heap x ox C od) (hga : findIn K (.ref C) "__getattribute__" = some (some (.builtin "list.__getattribute__"))) (hk : findIn K (.ref C) "__getattr__" = some none)
    (hf : findIn K (.ref C) name = some (some (.builtin f))) (ht : typeOf (.builtin f) = pure (.type "method_descriptor")) (hs : shadowIn od name = some false) (h : Q (.builtin f, [.ref x]) s) :
    wpAny (model prog w) A (getMethod (.ref x) name pl) Q E s := by
  have hcan := canon_lga
  unfold getMethod specialOf
  refine wpAny_bind (wpAny_bind (I.type.here ((looks_findIn X hga).here ?_)))
  dsimp only
  rw [hcan, if_neg (by decide)]
  refine wpAny_bind (wpAny_bind (I.type.here ((looks_findIn X hk).here ?_)))
  refine wpAny_bind (wpAny_bind (I.type.here ((looks_findIn X hf).here (wpAny_bind (wpAny_of_eq ht ?_)))))
  rw [if_neg (by decide +kernel)]
  refine wpAny_bind (wpAny_loadPart I.at_ ?_)
  have hd := I.dict
  cases e : ox.dict with
  | none => exact wpAny_bind (wpAny_rule (wpAny_pure h))
  | some dx =>
    cases od with
    | none => rw [e] at hd; exact hd.elim
    | some o =>
      rw [e] at hd
      obtain ⟨r, a, b⟩ := Option.map_eq_some_iff.mp hs
      refine wpAny_bind (wpAny_bind (wpAny_loadPart hd ?_))
      rw [nsLook_of a]
      refine wpAny_pure ?_
      rw [b]
      exact wpAny_bind (wpAny_rule (wpAny_pure h))

theorem shadow_dict {es : List DictEntry} {n : Nat} (hl : getL name es = some none) : shadowIn (some (dictOf es n)) name = some false := by
  show (lookIn name (dictOf es n)).map _ = _
  rw [lookIn_dict, hl]; rfl

theorem check_meth {M : Model} {A : Around} {E : Value → Shared → Prop} {s : Shared} {i owner n : String} {self : Value} {rest : List Value} {kw : List (PySem.Str × Value)} {Q : Unit → Shared → Prop}
    (hk : builtinKind i = some .method) (hs : splitId i = some (owner, n)) (hi : Looks M s.heap (isInstance self (.type owner)) true) (ha : argsOk i ⟨self :: rest, kw⟩) (q : Q () s) :
    wpAny M A (checkBuiltinCall i ⟨self :: rest, kw⟩) Q E s := by
  simp only [checkBuiltinCall, hk, hs]
  refine wpAny_bind (hi.here ?_)
  simp only [Bool.not_true, Bool.false_eq_true, if_false]
  cases hsig : Manifest.signature? i with
  | none => exact wpAny_pure q
  | some sig =>
    simp only [argsOk, hsig] at ha
    have h2 : Bind.checkArgs i sig ⟨self :: rest, kw⟩ = pure () := ha
    show wpAny M A (Bind.checkArgs i sig ⟨self :: rest, kw⟩) Q E s
    rw [h2]; exact wpAny_pure q

theorem isListL {M : Model} (X : K.In s.heap) (I : InstAt s.heap x ox C od) (hsub : subIn K (.ref C) (.type "list") = some true) : Looks M s.heap (isInstance (.ref x) (.type "list")) true :=
  I.type.andThen (looks_subIn X hsub)

theorem call_methL {i n : String} {b : Builtin} {rest : List Value} {Q : Value → Shared → Prop} (X : K.In s.heap) (I : InstAt s.heap x ox C od) (hsub : subIn K (.ref C) (.type "list") = some true)
    (hk : builtinKind i = some .method) (hs : splitId i = some ("list", n)) (hq : plainId i = true) (hb : entryFor table i = some b) (ha : argsOk i ⟨.ref x :: rest, []⟩)
    (hc : wpAny (model prog w) A.in1 (b ⟨.ref x :: rest, []⟩) (fun fin s' => ∃ v, fin = .done (.ret v) ∧ Q v s') E s) : wpAny (model prog w) A (call (.builtin i) (.ref x :: rest)) Q E s := by
  refine wpAny_call (codeAny_call_builtin hq hb (check_meth hk hs (isListL X I hsub) ha (wpAny_mono hc (fun fin s' h' => ?_) fun _ _ h' => h')))
  obtain ⟨v, rfl, hv⟩ := h'; exact hv
theorem call_slotL {i n : String} {b : Builtin} {rest : List Value} {Q : Value → Shared → Prop} (X : K.In s.heap) (I : InstAt s.heap x ox C od) (hsub : subIn K (.ref C) (.type "list") = some true)
    (hk : builtinKind i = some .slot) (hs : splitId i = some ("list", n)) (hq : plainId i = true) (hb : entryFor table i = some b) (ha : argsOk i ⟨.ref x :: rest, []⟩)
    (hc : wpAny (model prog w) A.in1 (b ⟨.ref x :: rest, []⟩) (fun fin s' => ∃ v, fin = .done (.ret v) ∧ Q v s') E s) : wpAny (model prog w) A (call (.builtin i) (.ref x :: rest)) Q E s := by
  refine wpAny_call (codeAny_call_builtin hq hb (check_slot hk hs (isListL X I hsub) ha (wpAny_mono hc (fun fin s' h' => ?_) fun _ _ h' => h')))
  obtain ⟨v, rfl, hv⟩ := h'; exact hv

theorem mapSeq_acc {its : Array Value} {n : Nat} {dx : Addr} (f : Array Value → Array Value) (hf : (f its).size ≠ its.size) : Obj.mapSeq f (accO dx its n) = accO dx (f its) (n + 1) := by
  simp [Obj.mapSeq, hf]
theorem mapSeq_acc' {its : Array Value} {n : Nat} {dx : Addr} (f : Array Value → Array Value) : ∃ n', Obj.mapSeq f (accO dx its n) = accO dx (f its) n' := ⟨_, rfl⟩

theorem append_accL {dx : Addr} {its : Array Value} {n : Nat} {v : Value} {od : Obj} {Q : Value → Shared → Prop} (F : Fr h₀ L s.heap m) (X₀ : K.In h₀) (N : News h₀ L s.heap news) (U : Upd x (accO dx its n) (accO dx (its.push v) (n + 1)) news news')
    (h2 : (dx, od) ∈ news) (hsub : subIn K (.ref 220) (.type "list") = some true)
    (h : ∀ h', Fr h₀ L h' m → News h₀ L h' news' → Q .none { s with heap := h' }) (hsz : its.size ≤ sizeLine := by size_fits) :
    wpAny (model prog w) A (call (.builtin "list.append") [.ref x, v]) Q E s := by
  obtain ⟨pre, post, rfl, rfl, a, b⟩ := U.split
  have hm : (x, accO dx its n) ∈ pre ++ (x, accO dx its n) :: post := List.mem_append.mpr (.inr (.head _))
  have z := N _ hm
  refine call_methL (n := "append") (X₀.keeps F.keep) (InstAt.ofAcc N hm h2) hsub (by decide +kernel) (by decide +kernel) (by decide +kernel) entry_list_append (args_list_append _ _) ?_
  show wpAny _ _ (updateSeq x (·.push v) >>= fun _ => ret .none) _ _ s
  refine wpAny_bind ?_
  have e : Obj.mapSeq (·.push v) (accO dx its n) = accO dx (its.push v) (n + 1) := mapSeq_acc _ (by simp)
  have hs : Heap.SameBut x s.heap (s.heap.update x (Obj.mapSeq (·.push v))) := Heap.SameBut.update ..
  refine wpAny_updateSeq z.1 rfl (wpAny_pure ⟨.none, rfl, h _ (F.change hs z.2.1 z.2.2) (news_set N a b hs ?_)⟩)
  rw [Heap.get?_update_self _ z.1 (by rw [e]; rfl), e]
end
end Mine
end
section
open PySem PySem.W PyProof.Rows PySem.Calls PySem.Spec
set_option maxRecDepth 100000
namespace Mine
/-- all that stands at h outside the ledger E stands at h' -/
def KB (E : List (Addr × Obj)) (h h' : Heap) : Prop := ∀ b o, b ∉ E.map (·.1) → h.get? b = some o → h'.get? b = some o
theorem KB.fin {E : List (Addr × Obj)} {h g h' : Heap} {L' : Addr} {m' : PySem.Str → Option Value} (k : KB E h g) (F : Fr g L' h' m') : KB E h h' := fun b o hb e => F.keep b o (k b o hb e)

section
variable {prog : Program} {w : World} {A₀ A : Around} {s : Shared} {base h₀ : Heap} {outer : List Env} {L : Addr} {m mg mb : PySem.Str → Option Value} {env : Env} {news : List (Addr × Obj)} {K : Frag} {p : Program} {loose : List PySem.Str} {mean : ExcName → Option Value}
  {R : Result → Shared → Prop} {name qual : PySem.Str} {params : Arguments} {body : List Stmt} {scope : Scope} {dV kV doc pm cdv ct oc : Value} {an od : Option Addr} {osl : Array (Option Value)} {f : Addr} {args : Args} {binds : List (PySem.Str × Value)}
theorem enterR (B : Below A₀ base outer h₀) (F : Fr h₀ L s.heap m) (X₀ : K.In h₀) (N : News h₀ L s.heap news) (T : Top p loose mean mg mb h₀) (hA : A.frames = some (env :: outer)) (hf : env.frame = some L) (hke : env.scope.kind = .function)
    (ho : K.lookup f = some ⟨oc, od, .func (fnOf name qual params body scope dV kV doc pm an cdv ct), osl⟩) (hcd : codeIn K cdv qual = true) (hroom : A.depth < recursionLimit)
    (hbind : BindsTo s (fnOf name qual params body scope dV kV doc pm an cdv ct) args binds) (hloc : ∀ y ∈ binds, scope.names.lookup y.1 = some .local)
    (h : ∀ g L' h₁, KB news s.heap g → Fr h₀ L g m → Fr g L' h₁ (fun y => binds.reverse.lookup y) → News g L' h₁ news → Below A base (env :: outer) g → K.In g → Top p loose mean mg mb g → (∀ p ∈ news, p.1 < L') →
      wpAny (model prog w) (A.deeper (envOf qual scope L' f cdv)) (execs body (envOf qual scope L' f cdv))
        (fun fl s' => LeaveK h₀ L m g R (match fl with | .ret v => v | _ => .none) s')
        (fun e s' => wpAny (model prog w) (A.deeper (envOf qual scope L' f cdv)) (leaving (envOf qual scope L' f cdv) e) (fun _ s'' => R (.error e) s'') (fun e' s'' => R (.error e') s'') s')
        { s with heap := h₁, toks := s.toks + binds.length })
    (hco : scope.isCoroutine = false) (hgen : scope.isGenerator = false) (hk : scope.kind = .function)
    (hcell : ∀ x ∈ scope.names, x.2 ≠ .cell) : codeAny (model prog w) A (.call (.ref f) args) R s := by
  obtain ⟨FG, BG, st, lv⟩ := groundX (R := R) B F N hA hf hke
  refine codeAny_call_def (fd := fnOf name qual params body scope dV kV doc pm an cdv ct) (body := body) (binds := binds) hroom ((X₀.keeps F.keep) _ _ ho) rfl (T.nolimit.keeps F.keep) (codeRec_of (X₀.keeps F.keep) hcd) rfl hbind hcell hloc (fun h₁ hns hk₁ => ?_) hco hgen hk
  refine wpAny_mono (h _ s.heap.objs.size h₁ (fun b o hb e => hideAll_get _ e hb) FG ⟨hns, fun b o e => hk₁ b o (of_hideAll _ e), Nat.le_of_eq (hideAll_size _ _)⟩
    (fun p hp => ⟨hk₁ _ _ (N p hp).1, Nat.ne_of_lt (Heap.lt_size (N p hp).1), hideAll_none _ (List.mem_map_of_mem hp)⟩) BG (X₀.keeps st) (T.keeps st) (fun p hp => Heap.lt_size (N p hp).1)) (fun fl s' hl => lv _ _ hl) fun _ _ y => y
end
end Mine
end
section
open PySem PySem.W PyProof.Rows PySem.Calls PySem.Spec
set_option maxRecDepth 100000
namespace Mine
def SeqAt (h : Heap) (a : Addr) (items : Array Value) : Prop := ∃ o n, h.get? a = some o ∧ o.data = .seq items n
theorem SeqAt.keep {h h' : Heap} {a : Addr} {items : Array Value} (x : SeqAt h a items) (k : ∀ o, h.get? a = some o → h'.get? a = some o) : SeqAt h' a items := let ⟨o, n, e, d⟩ := x; ⟨o, n, k o e, d⟩

section
variable {prog : Program} {w : World} {A : Around} {E : Value → Shared → Prop} {s : Shared} {K : Frag} {x C : Addr} {ox : Obj} {od : Option Obj}
theorem pyNext_acc_item {it l : Addr} {i : Nat} {items : Array Value} {v : Value} {Q : Option Value → Shared → Prop} (hit : s.heap.IsListIter it l i)
    (hl : SeqAt s.heap l items) (hx : items[i]? = some v)
    (hQ : ∀ h', h'.IsListIter it l (i + 1) → Heap.SameBut it s.heap h' → Q (some v) { s with heap := h' }) :
    wpAny (model prog w) A (pyNext (.ref it)) Q E s := by
  obtain ⟨o, ho, hc, hd⟩ := id hit
  obtain ⟨ol, nl, hol, hdl⟩ := hl
  unfold pyNext
  refine wpAny_bind (wpAny_attempt (wpAny_callSpecial?_slot (name := Str.ofString "__next__") hit.typeIs slot_listiter_next
    (wpAny_call_entry slot_listiter_next hit.typeIs entry_listiter_next ?_ (args_listiter_next _))))
  show wpAny _ _ (field (.ref it) 0 >>= _) _ _ s
  refine wpAny_bind (wpAny_field ho hd (x := .ref l) rfl ?_)
  show wpAny _ _ (if (Value.ref l == Value.none) = true then _ else _) _ _ s
  rw [if_neg (show ¬ ((Value.ref l == Value.none) = true) from Bool.false_ne_true)]
  show wpAny _ _ (field (.ref it) 1 >>= _) _ _ s
  refine wpAny_bind (wpAny_field ho hd (x := .int i 0) rfl ?_)
  show wpAny _ _ (seqItems? (.ref l) >>= _) _ _ s
  refine wpAny_bind (wpAny_seqItems hol hdl ?_)
  simp only [Int.toNat_natCast, hx]
  refine wpAny_bind (wpAny_setField ho hd (by simp) (wpAny_pure ⟨v, rfl, wpAny_pure (hQ _ ?_ (Heap.SameBut.update ..))⟩))
  exact ⟨_, Heap.get?_update_self _ ho (Obj.isFreed_of_fields (Obj.data_mapFields hd _)), (Obj.cls_mapFields ..).trans hc, by
    rw [Obj.data_mapFields hd]; simp [rawInt]⟩

theorem pyNext_acc_end {it l : Addr} {i : Nat} {items : Array Value} {Q : Option Value → Shared → Prop} (hh : A.handled = none)
    (hit : s.heap.IsListIter it l i) (hl : SeqAt s.heap l items) (hx : items[i]? = none)
    (hQ : ∀ h', Heap.ExtBut it s.heap h' → Q none { s with heap := h' }) : wpAny (model prog w) A (pyNext (.ref it)) Q E s := by
  obtain ⟨o, ho, hc, hd⟩ := id hit
  obtain ⟨ol, nl, hol, hdl⟩ := hl
  unfold pyNext
  refine wpAny_bind (wpAny_attempt (wpAny_callSpecial?_slot (name := Str.ofString "__next__") hit.typeIs slot_listiter_next
    (wpAny_call_entry slot_listiter_next hit.typeIs entry_listiter_next ?_ (args_listiter_next _))))
  show wpAny _ _ (field (.ref it) 0 >>= _) _ _ s
  refine wpAny_bind (wpAny_field ho hd (x := .ref l) rfl ?_)
  show wpAny _ _ (if (Value.ref l == Value.none) = true then _ else _) _ _ s
  rw [if_neg (show ¬ ((Value.ref l == Value.none) = true) from Bool.false_ne_true)]
  show wpAny _ _ (field (.ref it) 1 >>= _) _ _ s
  refine wpAny_bind (wpAny_field ho hd (x := .int i 0) rfl ?_)
  show wpAny _ _ (seqItems? (.ref l) >>= _) _ _ s
  refine wpAny_bind (wpAny_seqItems hol hdl ?_)
  simp only [Int.toNat_natCast, hx]
  refine wpAny_bind (wpAny_rule (wpAny_bind (wpAny_setField ho hd (by simp) ?_)))
  show wpAny _ _ (newExc (.type "StopIteration") [] >>= _) _ _ _
  refine wpAny_bind ?_
  simp only [newExc, newTuple]
  refine wpAny_bind (wpAny_newObj_type ?_ (by size_fits))
  refine wpAny_bind (m := firstArgMember _ _) (wpAny_of_eq (a := Value.none) (by first | rfl | (simp only [firstArgMember]; rfl)) ?_)
  refine wpAny_newObj_type ?_ (by size_fits)
  simp only [raiseNew]
  refine wpAny_bind (wpAny_handled ?_)
  rw [show A.in1.handled = none from hh]
  refine wpAny_bind (wpAny_pure (wpAny_throw ?_))
  refine wpAny_bind (wpAny_isInstance (T := "StopIteration") (b := true) ⟨_, Heap.get?_push_size _ rfl, rfl⟩ isSubtype_stop ?_)
  exact wpAny_pure (hQ _ (((Heap.SameBut.update ..).extBut.push _).push _))

theorem WalksU.acc {prog : Program} {w : World} {A : Around} (hh : A.handled = none) (I ax : Addr) (hne : ax ≠ I) (items : Array Value) (Ts : Nat → Addr) (vals : Nat → Array Value)
    (hit : ∀ j, j < items.size → items[j]? = some (.ref (Ts j))) (hTI : ∀ j, j < items.size → Ts j ≠ I) :
    WalksU prog w A I (I :: ax :: (List.range items.size).map Ts) [I] items.size (fun j v => v = vals j)
      (fun j h => h.IsListIter I ax j ∧ SeqAt h ax items ∧ ∀ k, k < items.size → h.IsTuple (Ts k) (vals k))
      (fun j T h => (j < items.size ∧ T = Ts j) ∧ h.IsListIter I ax (j + 1) ∧ SeqAt h ax items ∧ ∀ k, k < items.size → h.IsTuple (Ts k) (vals k)) where
  sub := fun b hb => by simp at hb; simp [hb]
  frame := fun _ _ _ st hk => ⟨st.1.at fun o e => hk I (by simp) o e, st.2.1.keep fun o e => hk ax (by simp) o e,
    fun k hk' => (st.2.2 k hk').at fun o e => hk (Ts k) (List.mem_cons_of_mem _ (List.mem_cons_of_mem _ (List.mem_map.mpr ⟨k, List.mem_range.mpr hk', rfl⟩))) o e⟩
  item := fun i s Q E hi st hQ => by
    refine pyNext_acc_item st.1 st.2.1 (v := .ref (Ts i)) (hit i hi) fun h' hit' hs' => ?_
    have tup : ∀ k, k < items.size → h'.IsTuple (Ts k) (vals k) := fun k hk' => (st.2.2 k hk').extBut hs'.extBut (hTI k hk')
    exact hQ (Ts i) (vals i) h' s.toks rfl (tup i hi) ⟨⟨hi, rfl⟩, hit', st.2.1.keep (fun o e => hs'.extBut _ o hne e), tup⟩ fun b o hb e => hs'.extBut b o (fun h => hb (by simp [h])) e
  go := fun _ _ _ _ _ s Q _ hm hQ => wpAny_letOwnedTupleGo_listiter hm.2.1 (hQ s.heap hm.2 fun _ _ _ e => e)
  apart := fun j T _ hm hmem => by
    rcases List.mem_cons.mp hmem with e | e
    · exact hTI j hm.1.1 (hm.1.2 ▸ e)
    · cases e
  done := fun s Q E st hQ => pyNext_acc_end hh st.1 st.2.1 (by simp) fun h' he' => hQ h' s.toks fun b o hb e => he' b o (fun h => hb (by simp [h])) e
  self := fun _ _ _ _ st hQ => wpAny_pyIter_listiter st.1 hQ

theorem pyIter_acc {Q : Value → Shared → Prop} (X : K.In s.heap) (I : InstAt s.heap x ox C od) (hsub : subIn K (.ref C) (.type "list") = some true) (hi : findIn K (.ref C) "__iter__" = some (some (.builtin "list.__iter__")))
    (hQ : Q (.ref s.heap.objs.size) { s with heap := s.heap.push { cls := .type "list_iterator", data := .fields #[.ref x, .int 0 0] } }) :
    wpAny (model prog w) A (pyIter (.ref x)) Q E s := by
  have fin : wpAny (model prog w) A (call (.builtin "list.__iter__") [.ref x]) (fun it s' => ∃ T' r, s'.TypeIs it T' ∧ typeLookup (.type T') "__next__" = pure (some r) ∧ Q it s') E s := by
    refine call_slotL (n := "__iter__") X I hsub (by decide +kernel) (by decide +kernel) (by decide +kernel) entry_list_iter (args_list_iter _) ?_
    show wpAny _ _ (do ret (← newFields "list_iterator" [.ref x, rawInt 0])) _ _ s
    exact wpAny_bind (wpAny_newObj_type (wpAny_pure ⟨_, rfl, "list_iterator", _, ⟨_, Heap.get?_push_size _ rfl, rfl⟩, slot_listiter_next.lookup, hQ⟩))
  have sp : Looks (model prog w) s.heap (specialOf (.ref x) "__iter__") (some (.builtin "list.__iter__")) := I.type.andThen (looks_findIn X hi)
  unfold pyIter
  refine wpAny_bind (sp.here ?_)
  show wpAny _ A (callSpecialIfBoundUnlessNone? (.ref x) "__iter__" _ >>= _) Q E s
  unfold callSpecialIfBoundUnlessNone? bindSpecialIfBound?
  have go : wpAny (model prog w) A (call (.builtin "list.__iter__") ([.ref x])) (fun it s' => ∃ T' r, s'.TypeIs it T' ∧ typeLookup (.type T') "__next__" = pure (some r) ∧ Q it s') E s := fin
  refine wpAny_bind (wpAny_holding (wpAny_bind (wpAny_bind (sp.here ?_))))
  refine wpAny_bind (wpAny_askSetting (wpAny_ite ?_))
  have b := slot_list_iter.bind (.ref x)
  split
  · refine wpAny_bind (wpAny_of_eq b (wpAny_pure ?_))
    dsimp only
    rw [if_neg (show ¬ ((Value.builtin "list.__iter__" == Value.none) = true) from Bool.false_ne_true)]
    refine wpAny_bind (wpAny_mono go (fun it s' z => ?_) fun _ _ z => z)
    obtain ⟨T', r, hT, hl, q⟩ := z
    exact wpAny_pure (wpAny_bind (wpAny_specialOf hT hl (wpAny_pure q)))
  · refine wpAny_tryCatch (wpAny_bind (wpAny_of_eq b (wpAny_pure ?_)))
    dsimp only
    rw [if_neg (show ¬ ((Value.builtin "list.__iter__" == Value.none) = true) from Bool.false_ne_true)]
    refine wpAny_bind (wpAny_mono go (fun it s' z => ?_) fun _ _ z => z)
    obtain ⟨T', r, hT, hl, q⟩ := z
    exact wpAny_pure (wpAny_bind (wpAny_specialOf hT hl (wpAny_pure q)))
end
end Mine
end
section
open PySem PySem.W PyProof.Rows PySem.Calls PySem.Spec
set_option maxRecDepth 100000
namespace Mine
section
variable {prog : Program} {w : World} {A : Around} {E : Value → Shared → Prop} {s : Shared} {cenv : Env} {mg mb m : PySem.Str → Option Value} {f v : PySem.Str} {tf tv : Tok} {Q : Value → Shared → Prop}
theorem len_one {x : PySem.Str} {y : PySem.Str} {ty : Tok} {p1 p2 p3 : Pos} (hkind : cenv.scope.kind = .function) (hlen : cenv.kindOf (Str.ofString "len") = some .globalImplicit) (hx : cenv.kindOf x = some .local) (hd : (x == ("__debug__" : Str)) = false)
    (hg : s.heap.Ns cenv.globals mg) (hm : mg (Str.ofString "len") = none) (hb : s.heap.Ns cenv.builtins mb) (hbl : mb (Str.ofString "len") = some (.builtin "len")) (hn : s.heap.Ns cenv.locals m) (hv : m x = some (.str y ty)) (hy : y.length ≤ 1000)
    (h : ∀ t k, Q (.int y.length t) { s with toks := k }) : wpAny (model prog w) A (eval (.Call (.Name (Str.ofString "len") p1) [.Name x p2] [] p3) cenv) Q E s := by
  refine Call_name1 (by rfl) (Name_function_global hkind hlen (loadGlobal_builtin hg hm hb hbl ?_) (by decide))
  refine callWith_builtin1 (wpAny_Name (wpAny_loadName_local hkind hx hn hv ?_) hd)
  exact P.len_str (by omega) (h _ _)
theorem elt_len {p1 p2 p3 p4 p5 p6 p7 : Pos} (hkind : cenv.scope.kind = .function) (hlen : cenv.kindOf (Str.ofString "len") = some .globalImplicit) (hf : cenv.kindOf (Str.ofString "fws") = some .local) (hp : cenv.kindOf (Str.ofString "part") = some .local)
    (hg : s.heap.Ns cenv.globals mg) (hm : mg (Str.ofString "len") = none) (hb : s.heap.Ns cenv.builtins mb) (hbl : mb (Str.ofString "len") = some (.builtin "len")) (hn : s.heap.Ns cenv.locals m) (h1 : m (Str.ofString "fws") = some (.str f tf)) (h2 : m (Str.ofString "part") = some (.str v tv))
    (hy : f.length ≤ 1000) (hz : v.length ≤ 1000) (h : ∀ t k, Q (.int (f.length + v.length : Int) t) { s with toks := k }) :
    wpAny (model prog w) A (eval (.BinOp (.Call (.Name (Str.ofString "len") p1) [.Name (Str.ofString "fws") p2] [] p3) .Add (.Call (.Name (Str.ofString "len") p4) [.Name (Str.ofString "part") p5] [] p6) p7) cenv) Q E s := by
  refine wpAny_BinOp (len_one hkind hlen hf (by decide) hg hm hb hbl hn h1 hy fun t k => ?_)
  refine len_one hkind hlen hp (by decide) hg hm hb hbl hn h2 hz fun t' k' => ?_
  exact wpAny_add_int (h _ _)
theorem elt_join {ts : Tok} {p1 p2 p3 p4 p5 p6 : Pos} {k0 : Nat} (hline : (p2.endLine == p6.line) = true) (hkind : cenv.scope.kind = .function) (hE : cenv.kindOf (Str.ofString "EMPTYSTRING") = some .globalImplicit) (hf : cenv.kindOf (Str.ofString "fws") = some .local) (hp : cenv.kindOf (Str.ofString "part") = some .local)
    (hg : s.heap.Ns cenv.globals mg) (hm : mg (Str.ofString "EMPTYSTRING") = some (.str (Str.ofString "") ts)) (hn : s.heap.Ns cenv.locals m) (h1 : m (Str.ofString "fws") = some (.str f tf)) (h2 : m (Str.ofString "part") = some (.str v tv))
    (hy : f.length ≤ 1000) (hz : v.length ≤ 1000) (h : ∀ t h' k, (∀ b o, s.heap.get? b = some o → h'.get? b = some o) → Q (.str (f ++ v) t) { s with heap := h', toks := k }) :
    wpAny (model prog w) A (eval (.Call (.Attribute (.Name (Str.ofString "EMPTYSTRING") p1) (Str.ofString "join") p2) [.Tuple [.Name (Str.ofString "fws") p3, .Name (Str.ofString "part") p4] k0 p5] [] p6) cenv) Q E s := by
  refine Call_method1 (by rfl) (by rfl) hline ?_
  refine Name_function_global hkind hE (loadGlobal_global hg hm ?_) (by decide)
  refine ⟨"str", _, F.plainAttrs_str, F.slot_str_join, F.type_str_join, typeIs_str _ _ _, (fun _ e => nomatch e), ?_⟩
  refine Calls.callWith_builtin rfl (Calls.evalArgs_plain (Calls.spliced_cons ?_))
  refine Tuple_ (Calls.spliced_cons ?_)
  refine wpAny_Name (wpAny_loadName_local hkind hf hn h1 ?_)
  refine Calls.spliced_cons ?_
  refine wpAny_Name (wpAny_loadName_local hkind hp hn h2 ?_)
  refine Calls.spliced_nil ?_
  refine wpAny_newObj_type ?_ (by size_fits)
  refine Calls.spliced_nil ?_
  refine join_tuple (items := #[.str f tf, .str v tv]) (ys := [f, v]) ⟨_, Heap.get?_push_size _ rfl, rfl, _, rfl⟩ ?_ ?_ fun t' k => ?_
  · repeat constructor
  · simp only [List.map_cons, List.map_nil, List.sum_cons, List.sum_nil, List.length_cons, List.length_nil]
    have : (Str.ofString "").length = 0 := by decide +kernel
    omega
  · have e : Txt.join (Str.ofString "") [f, v] = f ++ v := by
      show Builtin.Str.glued _ _ = _
      rw [StrLaws.glued_eq_join]
      show f ++ Str.ofString "" ++ v = _
      rw [show Str.ofString "" = PySem.Str.empty from by decide +kernel, PySem.Str.append_empty]
    rw [e]
    exact h _ _ _ fun b o e => Heap.get?_push_of_some _ e
end
end Mine
end
section
open PySem PySem.W PyProof.Rows PySem.Calls PySem.Spec
set_option maxRecDepth 100000
namespace Mine
section
variable {prog : Program} {w : World} {A : Around} {E : Value → Shared → Prop} {s : Shared}
theorem args_sum2 (x y : Value) : argsOk "sum" ⟨[x, y], []⟩ := by unfold argsOk; kernel_rfl
theorem call_sum2 {x : Value} {t0 : Tok} {Q : Value → Shared → Prop}
    (h : wpAny (model prog w) A.in1 (pyIter x) (fun it s₂ => ∃ I fp wr G n P St val, it = .ref I ∧ WalksS prog w A.in1 I fp wr G n P St ∧ St 0 s₂ ∧ (∀ b ∈ fp, b < s₂.heap.objs.size) ∧
      (∀ i v, P i v → ∃ t, v = .int (val i) t) ∧
      ∀ s' t', Moved wr G s₂ s' → Q (.int (preSum val n) t') s') E s) :
    wpAny (model prog w) A (call (.builtin "sum") [x, .int 0 t0]) Q E s := by
  refine call_function_tree F.kind_sum F.plain_sum F.entry_sum (args_sum2 _ _) ?_
  unfold Builtin.«sum»
  simp only [List.length_cons, List.length_nil]
  rw [if_neg (by decide)]
  refine wpAny_bind (wpAny_of_eq (show Builtin.Builtins.bindParams "sum" ["start"] 0 ⟨[.int 0 t0], []⟩ = pure [some (.int 0 t0)] from rfl) ?_)
  refine wpAny_bind (wpAny_mono h (fun it s₂ h₂ => ?_) fun _ _ e => e)
  obtain ⟨I, fp, wr, G, n, P, St, val, rfl, W, hst, hfp, hval, hQ⟩ := h₂
  dsimp only
  split
  rotate_left
  · rename_i hc
    exact (hc rfl).elim
  refine wpAny_bind (wpAny_rule ?_)
  refine wpAny_bind (wpAny_mkInt ?_)
  refine wpAny_bind (wpAny_pure ?_)
  simp only [List.forIn_cons, List.forIn_nil]
  refine wpAny_bind (wpAny_bind (wpAny_bind (wpAny_isInstance (T := "int") (b := false) (typeIs_int _ _ _) PySem.sub_int_str ?_)))
  simp only [Bool.false_eq_true, if_false]
  refine wpAny_pure (wpAny_bind (wpAny_bind (wpAny_isInstance (T := "int") (b := false) (typeIs_int _ _ _) PySem.sub_int_bytes ?_)))
  simp only [Bool.false_eq_true, if_false]
  refine wpAny_pure (wpAny_bind (wpAny_bind (wpAny_isInstance (T := "int") (b := false) (typeIs_int _ _ _) PySem.sub_int_bytearray ?_)))
  simp only [Bool.false_eq_true, if_false]
  refine wpAny_pure (wpAny_pure ?_)
  refine wpAny_bind (wpAny_newObj_type ?_)
  have hSf : s₂.heap.objs.size ∉ fp := fun hm => Nat.lt_irrefl _ (hfp _ hm)
  refine wpAny_pure ⟨plainId_quiet F.plain_sum_loop _, codeAny_sum_loopAnyS W val hval s₂.heap.objs.size hSf n 0 _ s₂.toks 0 0 (.inl rfl) rfl (Nat.zero_le _)
    (W.frame 0 s₂ _ _ hst (by first | exact Nat.le_refl _ | exact Nat.le_succ _ | omega) fun b _ o e => Heap.get?_push_of_some _ e) (Heap.get?_push_size _ rfl) fun s' t' hm => ?_⟩
  exact hQ s' t' (hm.drop_new (by first | exact Nat.le_refl _ | exact Nat.le_succ _ | omega))
end
end Mine
end
section
open PySem PySem.W PyProof.Rows PySem.Calls PySem.Spec
set_option maxRecDepth 100000
namespace Mine
def psOk (pos : Pos) (ps : Array Value) : Prop := ps = #[] ∨ ∃ c' : Addr, ps = #[rawInt pos.line, rawInt pos.col, .ref c']
theorem psOk.triples {pos : Pos} {ps : Array Value} (x : psOk pos ps) : TriplesOk ps.toList := by
  rcases x with rfl | ⟨c', rfl⟩
  · trivial
  · simp [TriplesOk, rawInt]

theorem gen_code {M : Model} {A : Around} {E : Value → Shared → Prop} {s : Shared} {env : Env} {c P : Addr} {ps : Array Value} {pos : Pos} {qual : PySem.Str} {scope : Scope} {Q : Value → Shared → Prop}
    (hcode : env.code = .ref c) (C : CodeHd s.heap c P) (hP : s.heap.get? P = some (tabObj ps)) (hps : psOk pos ps)
    (h : ∀ (c' : Addr) h' tk ps', Heap.ExtBut P s.heap h' → s.heap.objs.size ≤ h'.objs.size → psOk pos ps' → h'.get? P = some (tabObj ps') → Q (.ref c') { s with heap := h', toks := tk }) :
    wpAny M A (genexprCode env pos qual scope) Q E s := by
  have hcode2 := C.code hP hps.triples
  rcases hps with rfl | ⟨c', rfl⟩
  · refine wpAny_genexprCodeX hcode hcode2 (C.tab hP) rfl fun c' h₃ tk₃ hx₃ hge hlt hcode₃ _ htab₃ _ => ?_
    exact h c' h₃ tk₃ _ hx₃ (Nat.le_trans hge (Nat.le_of_lt hlt)) (.inr ⟨c', rfl⟩) htab₃.2
  · refine wpAny_genexprCode_hit hcode hcode2 (c' := .ref c') (by simp [codeAmong, rawInt]) ?_
    exact h c' s.heap s.toks _ (fun _ _ _ e => e) (Nat.le_refl _) (.inr ⟨c', rfl⟩) hP

theorem passing_all (n : Nat) : passing (fun _ => true) n 0 = List.range n := by
  unfold passing; rw [List.drop_zero]; exact List.filter_eq_self.mpr fun _ _ => rfl

section
variable {prog : Program} {w : World} {A : Around} {E : Value → Shared → Prop} {s : Shared} {K : Frag} {x c P bm : Addr} {ob : Obj} {ox : Obj} {od : Option Obj} {mg : PySem.Str → Option Value}
theorem gen_self {env : Env} {elt iter : Expr} {xa xb : PySem.Str} {pa pb pt : Pos} {kt : Nat} {scope : Scope} {cl : List (PySem.Str × Addr)} {pos : Pos} {Q : Value → Shared → Prop} {ps : Array Value} {its : Array Value} {Ts : Nat → Addr} {va vb : Nat → Value} {F : Nat → Value → Prop}
    (hcode : env.code = .ref c) (C : CodeHd s.heap c P) (hP : s.heap.get? P = some (tabObj ps)) (hps : psOk pos ps)
    (M : BMod s.heap env.globals mg bm ob) (hlim : s.heap.NoLimit) (hh : A.handled = none) (hco : scope.isCoroutine = false) (hclos : closureFor scope env = pure cl) (hcell : ∀ y ∈ scope.names, y.2 ≠ .cell) (h0 : scope.names.lookup (".0" : PySem.Str) = some NameKind.local)
    (hxa : scope.names.lookup xa = some .local) (hxb : scope.names.lookup xb = some .local) (hab : xa ≠ xb) (hkind : scope.kind = .function) (hroom : A.depth < recursionLimit)
    (X : K.In s.heap) (I : InstAt s.heap x ox 220 od) (hsub : subIn K (.ref 220) (.type "list") = some true) (hi : findIn K (.ref 220) "__iter__" = some (some (.builtin "list.__iter__")))
    (hseq : SeqAt s.heap x its) (hit : ∀ j, j < its.size → its[j]? = some (.ref (Ts j))) (htup : ∀ j, j < its.size → s.heap.IsTuple (Ts j) #[va j, vb j])
    (hiter : ∀ Q' : Value → Shared → Prop, Q' (.ref x) s → wpAny (model prog w) A (eval iter env) Q' E s)
    (hq : ∀ (A' : Around) E' i (s₂ : Shared) m₂ (cenv : Env), A'.handled = none → i < its.size → cenv.scope = scope → cenv.globals = env.globals → cenv.builtins = builtinsNs → s₂.heap.Ns cenv.locals m₂ → m₂ xa = some (va i) → m₂ xb = some (vb i) →
      (∀ b o, b ≠ P → s.heap.get? b = some o → s₂.heap.get? b = some o) → wpAny (model prog w) A' (eval elt cenv) (fun y s₃ => F i y ∧ Keeps s₂ s₃) E' s₂)
    (h : ∀ a ps' (s₅ : Shared), (∀ b o, b ≠ P → s.heap.get? b = some o → s₅.heap.get? b = some o) → psOk pos ps' → s₅.heap.get? P = some (tabObj ps') → (AllBare s.gens → AllBare s₅.gens) → s₅.os = s.os → s₅.drawn = s.drawn → s.heap.objs.size ≤ s₅.heap.objs.size →
      Gen prog w A (s.heap.objs.size - 1) a its.size (fun j y => ∃ i, (List.range its.size)[j]? = some i ∧ F i y) s₅ → Q (.ref a) s₅)
    (hs : ∀ x, genFold iter env x = pure x) :
    wpAny (model prog w) A (eval (.GeneratorExp elt [⟨.Tuple [.Name xa pa, .Name xb pb] kt pt, iter, [], 0⟩] scope pos) env) Q E s := by
  have hcP : cStatics ≠ P := fun e => by
    obtain ⟨_, hns, _⟩ := hlim
    obtain ⟨o, es, ep, ho, hd, _⟩ := hns
    rw [e, hP] at ho; cases ho; cases hd
  refine wpAny_GeneratorExp_walksQT hh hco hclos hcell h0 hxa hxb hab hkind hroom (hiter _ ?_) hs
  refine pyIter_acc X I hsub hi ?_
  generalize hH : s.heap.push { cls := .type "list_iterator", data := .fields #[.ref x, .int 0 0] } = H
  have hHz : H.objs.size = s.heap.objs.size + 1 := by rw [← hH, Heap.size_push]
  have hk : ∀ b o, s.heap.get? b = some o → H.get? b = some o := fun b o e => hH ▸ Heap.get?_push_of_some _ e
  have hI : H.IsListIter s.heap.objs.size x 0 := ⟨_, hH ▸ Heap.get?_push_size _ rfl, rfl, rfl⟩
  have hxP : x ≠ P := fun e => by
    obtain ⟨o, n, e1, e2⟩ := hseq
    rw [e, hP] at e1; cases e1; cases e2
  have hTP : ∀ j, j < its.size → Ts j ≠ P := fun j hj e => by
    obtain ⟨o, e1, e2, _⟩ := htup j hj
    rw [e, hP] at e1; cases e1; cases e2
  have hxI : x ≠ s.heap.objs.size := by
    obtain ⟨o, n, e1, e2⟩ := hseq
    exact Nat.ne_of_lt (Heap.lt_size e1)
  have hTI : ∀ j, j < its.size → Ts j ≠ s.heap.objs.size := fun j hj => by
    obtain ⟨o, e1, e2, _⟩ := htup j hj
    exact Nat.ne_of_lt (Heap.lt_size e1)
  refine ⟨hlim.keeps hk, gen_code hcode (C.keeps hk) (hk _ _ hP) hps fun c' h₃ tk₃ ps' hx₃ hsz hps' hP₃ => ?_⟩
  have M₃ : BMod h₃ env.globals mg bm ob := ((M.keeps hk).extBut ((C.keeps hk).tab (hk _ _ hP)) hx₃)
  have k₃ : ∀ b o, b ≠ P → s.heap.get? b = some o → h₃.get? b = some o := fun b o hb e => hx₃ b o hb (hk b o e)
  have hl₃ : h₃.NoLimit := (hlim.keeps hk).extBut hx₃ hcP
  refine wpAny_builtinsFor M₃.ns M₃.name M₃.ne M₃.obj M₃.cls M₃.dict M₃.data ?_
  have hsz' : s.heap.objs.size < h₃.objs.size := by have : H.objs.size ≤ h₃.objs.size := hsz; omega
  have hcl : cStatics < s.heap.objs.size := let ⟨_, hn, _⟩ := hlim; hn.lt
  have hPs : P < s.heap.objs.size := Heap.lt_size hP
  refine ⟨s.heap.objs.size, _, [s.heap.objs.size], its.size, _, _, _, fun _ => true, F, rfl, fun A' hA' => WalksU.bound (WalksU.acc hA' s.heap.objs.size x hxI its Ts (fun j => #[va j, vb j]) hit hTI), fun i vals hv => ⟨_, _, hv.2⟩,
    ⟨⟨_, hx₃ _ _ (Nat.ne_of_gt hPs) hI.choose_spec.1, hI.choose_spec.2⟩, hseq.keep fun o e => k₃ _ _ hxP e, fun j hj => let ⟨o, e1, e2⟩ := htup j hj; ⟨o, k₃ _ _ (hTP j hj) e1, e2⟩⟩, ?_, hl₃, by simp; exact Nat.ne_of_lt hcl, ?_, ?_⟩
  · intro b hb
    rcases List.mem_cons.mp hb with rfl | hb
    · exact hsz'
    · rcases List.mem_cons.mp hb with rfl | hb
      · obtain ⟨o, n, e1, e2⟩ := hseq
        exact Nat.lt_trans (Heap.lt_size e1) hsz'
      · obtain ⟨j, hj, rfl⟩ := List.mem_map.mp hb
        obtain ⟨o, e1, e2, _⟩ := htup j (List.mem_range.mp hj)
        exact Nat.lt_trans (Heap.lt_size e1) hsz'
  · intro href hhref
    have kk : ∀ s₂ : Shared, (∀ b ∈ List.range h₃.objs.size, b ∉ [s.heap.objs.size] → ∀ o, href.get? b = some o → s₂.heap.get? b = some o) → ∀ b o, b ≠ P → s.heap.get? b = some o → s₂.heap.get? b = some o := fun s₂ k b o hb e =>
      k b (List.mem_range.mpr (Nat.lt_trans (Heap.lt_size e) hsz')) (by simp; exact Nat.ne_of_lt (Heap.lt_size e)) o (hhref _ _ (k₃ b o hb e))
    refine ⟨fun A' E' i v1 v2 s₂ m₂ hA' hv hn h1 h2 hkeep => ?_, fun A' E' i v1 v2 s₂ m₂ hA' hv _ hn h1 h2 hkeep => ?_⟩
    · exact wpAny_pure ⟨rfl, s₂.heap, s₂.toks, rfl, fun _ _ e => e⟩
    · obtain ⟨hi', hv⟩ := hv
      obtain ⟨rfl, rfl⟩ : v1 = va i ∧ v2 = vb i := by simpa using hv
      exact hq A' E' i s₂ m₂ (genEnv scope cl h₃.objs.size _ builtinsNs env) hA' hi' rfl rfl rfl hn h1 h2 (kk s₂ hkeep)
  · intro a h₅ tk gs hgb hag hsz₅ hk₅ W hat
    rw [passing_all, List.length_range] at W
    dsimp only at W hat ⊢
    refine h a ps' _ (fun b o hb e => hk₅ b o (k₃ b o hb e)) hps' (hk₅ _ _ hP₃) (fun G => G.push hgb) rfl rfl ?_ ?_
    · show s.heap.objs.size ≤ h₅.objs.size
      have : h₃.objs.size < a := hag
      omega
    · refine ⟨_, _, _, _, W, hat, (fun i s' st => st.1.typeIs), List.mem_cons_self, ?_, ?_⟩
      · intro b hb
        show b < h₅.objs.size
        have ha : h₃.objs.size < a := hag
        rw [hsz₅]
        rcases List.mem_cons.mp hb with rfl | hb
        · exact Nat.lt_succ_self _
        · rcases List.mem_cons.mp hb with rfl | hb
          · exact Nat.lt_succ_of_lt ha
          · exact Nat.lt_succ_of_lt (Nat.lt_trans (List.mem_range.mp hb) ha)
      · intro b hb
        rcases List.mem_cons.mp hb with rfl | hb
        · exact Nat.lt_of_le_of_lt (Nat.sub_le _ _) hsz'
        · have : b = s.heap.objs.size := by simpa using hb
          have h0 : 0 < s.heap.objs.size := Nat.lt_of_le_of_lt (Nat.zero_le _) hcl
          rw [this]
          exact Nat.sub_lt h0 Nat.one_pos
end
end Mine
end
section
open PySem PySem.W PyProof.Rows PySem.Calls PySem.Spec PySem.Builtin PySem.Builtin.ObjectAttr PySem.Builtin.Getset_descriptor
set_option maxRecDepth 100000
namespace Mine
theorem mro220 (P : Params) : (clsIn (Mine.hd.heap_1 P) 220).map (·.mro) = some [.ref 220, .type "list", .type "object"] := by kernel_rfl
theorem passes_list (self : Value) : refuseLoop self "__setattr__" [.type "list", .type "object"] = pure () := by kernel_rfl
theorem noTabs_hd (P : Params) : noTabs (Mine.hd.heap_1 P) = true := by kernel_rfl
section
variable {prog : Program} {w : World} {A : Around} {E : Value → Shared → Prop} {s : Shared} {K : Frag} {x : Addr} {ox : Obj} {od : Option Obj} {name : PySem.Str} {h₀ : Heap} {L : Addr} {m : PySem.Str → Option Value} {news news' : List (Addr × Obj)}
theorem get_ownL {expr : Bool} {Q : Value → Shared → Prop} {v : Value} {C : Addr} (X : K.In s.heap) (I : InstAt s.heap x ox C od) (hga : findIn K (.ref C) "__getattribute__" = some (some (.builtin "list.__getattribute__"))) (hk : findIn K (.ref C) "__getattr__" = some none)
    (hsub : subIn K (.ref C) (.type "list") = some true) (hf : findObj K C od name = some (.value v)) (hh : handedIn v = true) (h : Q v { s with toks := s.toks + 1 }) :
    wpAny (model prog w) A (getAttr (.ref x) name expr) Q E s := by
  refine wpAny_bind (wpAny_mkText (wpAny_holding (wpAny_bind (I.type _ _ _ _ (fun _ _ e => e) (wpAny_bind (looks_findIn X hga _ _ _ _ (fun _ _ e => e) ?_))))))
  dsimp only
  rw [show (onTheHeap (.ref C) && Value.builtin "list.__getattribute__" == Value.builtin "object.__getattribute__") = false from by rw [show (Value.builtin "list.__getattribute__" == Value.builtin "object.__getattribute__") = false from by decide +kernel, Bool.and_false], if_neg (by decide)]
  unfold getAttrByItsOwn
  refine wpAny_bind (m := hookBefore (.ref C)) (looks_findIn X hk _ _ _ _ (fun _ _ e => e) (wpAny_bind (wpAny_attempt (wpAny_holding ?_))))
  unfold callGetattribute
  rw [show (expr && onTheHeap (Value.builtin "list.__getattribute__")) = false from Bool.and_false _, if_neg (by decide)]
  unfold boundAndCalled
  rw [PySem.F.slot_list_getattribute.bind]
  refine wpAny_bind (wpAny_pure ?_)
  show wpAny _ _ (call (.builtin "list.__getattribute__") [.ref x, .str name s.toks]) _ _ _
  refine call_slotL (s := { s with toks := s.toks + 1 }) (n := "__getattribute__") X I hsub (by decide +kernel) (by decide +kernel) (by decide +kernel) PySem.F.entry_list_ga (PySem.F.args_list_getattribute_2 _ _) ?_
  have L0 := I.type (M := model prog w)
  have L1 := looks_find (M := model prog w) X I hf
  refine wpAny_bind (wpAny_pure (wpAny_bind (wpAny_pure (wpAny_bind (L0.at (wpAny_bind (L1.at ?_)))))))
  refine wpAny_pure ⟨v, rfl, ?_⟩
  show wpAny _ _ (handedOut v) _ _ _
  rw [handedOut_of hh]; exact wpAny_pure h

theorem findObj_ownL {C : Addr} {od : Obj} {v : Value} {attr : Option Value} (hh : hasDictIn K C = true) (ha : findIn K (.ref C) name = some attr) (hn : noGet K attr = true) {es : List DictEntry} {n : Nat} (e : od = dictOf es n) (hl : getL name es = some (some v)) :
    findObj K C (some od) name = some (.value v) := by subst e; exact findObj_own hh ha hn hl

theorem get_ownL' {expr : Bool} {Q : Value → Shared → Prop} {v : Value} {C : Addr} {es : List DictEntry} {n : Nat} {attr : Option Value} (F : Fr h₀ L s.heap m) (X₀ : K.In h₀) (I : InstAt s.heap x ox C (some (dictOf es n))) (hga : findIn K (.ref C) "__getattribute__" = some (some (.builtin "list.__getattribute__"))) (hk : findIn K (.ref C) "__getattr__" = some none)
    (hsub : subIn K (.ref C) (.type "list") = some true) (hd : hasDictIn K C = true) (ha : findIn K (.ref C) name = some attr) (hn : noGet K attr = true) (hl : getL name es = some (some v)) (hh : handedIn v = true) (h : Q v { s with toks := s.toks + 1 }) :
    wpAny (model prog w) A (getAttr (.ref x) name expr) Q E s := get_ownL (X₀.keeps F.keep) I hga hk hsub (findObj_own hd ha hn hl) hh h

theorem osa_openL {od : Option Obj} {name : PySem.Str} {tk : Tok} {v : Value} {R : Result → Shared → Prop} (X : K.In s.heap) (I : InstAt s.heap x ox 220 od) (hm : (clsIn K 220).map (·.mro) = some [.ref 220, .type "list", .type "object"]) (ht : takerIn K 220 name = some none)
    (h : ∀ b, wpAny (model prog w) A.in1 (storeInOwnDict (.ref x) (.ref 220) (.str name tk) name v b)
      (fun fin s' => match fin with | .done f => R (.ok f) s' | .again c' => c'.quiet = true ∧ codeAny (model prog w) A c' R s') (fun e s' => R (.error e) s') s) :
    codeAny (model prog w) A (.call (.builtin "object.__setattr__") ⟨[.ref x, .str name tk, v], []⟩) R s := by
  have SF := PySem.F.store_object
  obtain ⟨cd, hc, ho⟩ := Option.map_eq_some_iff.mp hm
  have ne : cd.mro.isEmpty = false := by rw [ho]; rfl
  have sub : Looks (model prog w) s.heap (isInstance (.ref x) (.type "object")) true := I.type.andThen (looks_mroIn X (by unfold mroIn; rw [hc, Option.bind_some, if_neg (by rw [ne]; decide), ho]; rfl))
  refine codeAny_call_builtin SF.slot.plain SF.entry (@check_slot (model prog w) _ _ s "object.__setattr__" "object" "__setattr__" (.ref x) [.str name tk, v] [] _ SF.kind SF.split sub (SF.args (.ref x) (.str name tk) v) ?_)
  obtain ⟨attr, ha, hr⟩ := Option.bind_eq_some_iff.mp ht
  have hm' : Looks (model prog w) s.heap (mroOf (.ref 220)) cd.mro := (looks_clsIn X hc).andThen .now
  have L3 : Looks (model prog w) s.heap (storeTaker? attr) none := by
    cases attr with
    | none => exact .now
    | some a =>
      obtain ⟨b, hb, hb2⟩ := Option.map_eq_some_iff.mp hr
      refine (looks_takesIn X hb).andThen ?_
      cases b with
      | true => simp at hb2
      | false => exact .now
  rw [osa_eq, refuse_eq]
  refine wpAny_bind (wpAny_bind (I.type.here (wpAny_bind (hm'.here ?_))))
  rw [ho, refuseLoop_ref, passes_list]
  refine wpAny_pure (wpAny_bind (I.type.here (wpAny_bind ((looks_findIn X ha).here (wpAny_bind (L3.here ?_))))))
  exact h _

theorem osa_dictL {ox od od' : Obj} {dx : Addr} {name : PySem.Str} {tk : Tok} {v : Value} {pre post : List (Addr × Obj)} {es : List DictEntry} {n : Nat} {R : Result → Shared → Prop} (F : Fr h₀ L s.heap m) (N : News h₀ L s.heap (pre ++ (dx, od) :: post)) (X : K.In s.heap)
    (I : InstAt s.heap x ox 220 (some od)) (hd : ox.dict = some dx) (hm : (clsIn K 220).map (·.mro) = some [.ref 220, .type "list", .type "object"]) (ht : takerIn K 220 name = some none) (hh : (clsIn K 220).any (·.hasDict) = true)
    (hl : (lookIn name od).isSome = true) (h1 : ∀ p ∈ pre, p.1 ≠ dx) (h2 : ∀ p ∈ post, p.1 ≠ dx)
    (e : Obj.putName name (PyData.keyHash w.params name) (.str name s.toks) v od = od') (e' : od'.data = .dict es.toArray n) (hz : es.length ≤ 1000)
    (h : ∀ h', Fr h₀ L h' m → News h₀ L h' (pre ++ (dx, od') :: post) → R (.ok (.ret .none)) { s with heap := h', toks := s.toks + 1 }) :
    codeAny (model prog w) A (.call (.builtin "object.__setattr__") ⟨[.ref x, .str name tk, v], []⟩) R s := by
  refine osa_openL X I hm ht fun b => ?_
  obtain ⟨cd, hc, hd'⟩ := any_some hh
  obtain ⟨U1, U2⟩ := news_upd (f := Obj.putName name (PyData.keyHash w.params name) (.str name s.toks) v) F N h1 h2 e (by obtain ⟨_, _, dd, _⟩ := od'; cases e'; rfl)
  have D := (N (dx, od) (by simp)).1
  have D' := (U2 (dx, od') (by simp)).1
  obtain ⟨hx, hcl, hn, -⟩ := I
  obtain ⟨oc, odi, oda, osl⟩ := ox
  dsimp only at hcl hd
  subst hcl hd
  refine wpAny_bind (wpAny_pure (wpAny_bind (wpAny_bind (wpAny_loadPart hx (wpAny_bind ((looks_clsIn X hc).here ?_))))))
  rw [hd']
  refine wpAny_pure (a := some dx) (wpAny_bind (wpAny_pure (wpAny_bind ?_)))
  unfold nsSet
  refine wpAny_bind (wpAny_bind (wpAny_askSetting (wpAny_pure (wpAny_bind (wpAny_mkText (wpAny_bind (wpAny_loadPart D ?_)))))))
  unfold lookIn at hl
  split at hl
  · rename_i es₀ n₀ q
    rw [q]
    dsimp only
    have c : (!es₀.any (·.key.isStr name) && es₀.any (·.refKey)) = false := by
      rw [← Array.any_toList, ← Array.any_toList]
      split at hl
      · rename_i en he
        rw [List.any_eq_true.mpr ⟨en, List.mem_of_find?_eq_some he, List.find?_some he⟩]; rfl
      · split at hl
        · cases hl
        · rename_i z; rw [Bool.not_eq_true] at z; rw [z, Bool.and_false]
    rw [aRefKeyMayBeTheName_at, c]
    refine wpAny_updatePart D ?_
    refine wpAny_bind (wpAny_lookBehind D' (by rw [e']; exact pastItsLine_dict (by rw [List.size_toArray, sizeLine_eq]; omega)) ?_)
    exact wpAny_pure (h _ U1 U2)
  · cases hl

theorem set_dictL {Q : Unit → Shared → Prop} {ox : Obj} {dx : Addr} {es es' : List DictEntry} {n n' : Nat} {v : Value} (F : Fr h₀ L s.heap m) (X₀ : K.In h₀) (N : News h₀ L s.heap news) (I : InstAt s.heap x ox 220 (some (dictOf es n))) (hd : ox.dict = some dx)
    (hs : findIn K (.ref 220) "__setattr__" = some (some (.builtin "object.__setattr__"))) (hm : (clsIn K 220).map (·.mro) = some [.ref 220, .type "list", .type "object"]) (ht : takerIn K 220 name = some none) (hh : hasDictIn K 220 = true) (hl : (getL name es).isSome = true)
    (e : (putL name (PyData.keyHash w.params name) (.str name (s.toks + 1)) v es, putN name es n) = (es', n')) (U : Upd dx (dictOf es n) (dictOf es' n') news news') (hz : es'.length ≤ 1000)
    (h : ∀ h', Fr h₀ L h' m → News h₀ L h' news' → Q () { s with heap := h', toks := s.toks + 2 }) :
    wpAny (model prog w) A (setAttr (.ref x) name v) Q E s := by
  obtain ⟨pre, post, rfl, rfl, a, b⟩ := U.split
  obtain ⟨e1, e2⟩ := Prod.mk.inj e
  exact set_plain (X₀.keeps F.keep) I hs (osa_dictL (s := { s with toks := s.toks + 1 }) F N (X₀.keeps F.keep) I hd hm ht hh hl a b (by rw [putName_dict, e1, e2]) rfl hz fun h' F' N' => h h' F' N')
end
end Mine
end
section
open PySem PySem.W PyProof.Rows PySem.Calls PySem.Spec
set_option maxRecDepth 100000
namespace Mine
def hdIn (K : Frag) (c P : Addr) : Bool := match K.lookup c with
  | some ⟨.type t, _, .fields vs, _⟩ => t == "code" && (match (vs[11]? : Option Value), vs.getD 18 .none, vs.getD 7 .none, vs.getD 9 .none, vs.getD 10 .none with
    | some (.ref p), .str _ _, .int _ _, .bool _, .int _ _ => p == P && c != P
    | _, _, _, _, _ => false)
  | _ => false
theorem hd_of {K : Frag} {h : Heap} {c P : Addr} (X : K.In h) (e : hdIn K c P = true) : CodeHd h c P := by
  unfold hdIn at e
  split at e
  · rename_i t d vs sl ho
    obtain ⟨e1, e2⟩ := Bool.and_eq_true_iff.mp e
    split at e2
    · rename_i p f1 f2 i1 i2 b j1 j2 h1 h2 h3 h4 h5
      obtain ⟨e3, e4⟩ := Bool.and_eq_true_iff.mp e2
      have ep : p = P := by simpa using e3
      subst ep
      exact ⟨_, vs, f1, f2, i1, i2, b, j1, j2, X _ _ ho, by rw [beq_iff_eq.mp e1], rfl, h1, by rw [Array.getD_eq_getD_getElem?, h1]; rfl, h2, h3, h4, h5, by simpa using e4⟩
    · cases e2
  · cases e
theorem hd186 (P : Params) : hdIn (Mine.hd.heap_1 P) 186 182 = true := by kernel_rfl
theorem hd193 (P : Params) : hdIn (Mine.hd.heap_1 P) 193 189 = true := by kernel_rfl

def TupsAt (h : Heap) (its : Array Value) (ws : List PySem.Str) : Prop := its.size = ws.length ∧ ∀ j (hj : j < ws.length), ∃ T tf tv, its[j]? = some (.ref T) ∧ h.IsTuple T #[.str (Str.ofString " ") tf, .str ws[j] tv]
theorem TupsAt.keeps {h h' : Heap} {its : Array Value} {ws : List PySem.Str} (x : TupsAt h its ws) (k : ∀ b o, h.get? b = some o → o.cls = .type "tuple" → h'.get? b = some o) : TupsAt h' its ws :=
  ⟨x.1, fun j hj => let ⟨T, tf, tv, e, o, e1, e2, r⟩ := x.2 j hj; ⟨T, tf, tv, e, o, k _ _ e1 e2, e2, r⟩⟩

theorem upd_mem {d : Addr} {o o' : Obj} {l l' : List (Addr × Obj)} (U : Upd d o o' l l') : ∀ p ∈ l', p = (d, o') ∨ (p ∈ l ∧ p.1 ≠ d) := by
  obtain ⟨pre, post, rfl, rfl, a, b⟩ := U.split
  intro p hp
  rcases List.mem_append.mp hp with hp | hp
  · exact .inr ⟨List.mem_append_left _ hp, a p hp⟩
  · rcases List.mem_cons.mp hp with rfl | hp
    · exact .inl rfl
    · exact .inr ⟨List.mem_append_right _ (.tail _ hp), b p hp⟩
theorem upd_here {d : Addr} {o o' : Obj} {l l' : List (Addr × Obj)} (U : Upd d o o' l l') : (d, o) ∈ l := by
  obtain ⟨pre, post, rfl, rfl, a, b⟩ := U.split
  exact List.mem_append_right _ (.head _)
/-- a ledger behind a change of one object -/
theorem news_after1 {h₀ h h' : Heap} {L d : Addr} {o o' : Obj} {l l' : List (Addr × Obj)} (N : News h₀ L h l) (U : Upd d o o' l l') (hk : ∀ b x, b ≠ d → h.get? b = some x → h'.get? b = some x) (hd : h'.get? d = some o') : News h₀ L h' l' := fun p hp => by
  rcases upd_mem U p hp with rfl | ⟨hp, hn⟩
  · exact ⟨hd, (N _ (upd_here U)).2⟩
  · exact ⟨hk _ _ hn (N _ hp).1, (N _ hp).2⟩
theorem fr_after1 {h₀ h h' : Heap} {L d : Addr} {o : Obj} {m : PySem.Str → Option Value} {l : List (Addr × Obj)} (F : Fr h₀ L h m) (N : News h₀ L h l) (hm : (d, o) ∈ l) (hk : ∀ b x, b ≠ d → h.get? b = some x → h'.get? b = some x) : Fr h₀ L h' m := by
  obtain ⟨h1, h2, h3⟩ := N _ hm
  refine ⟨F.ns.at fun o e => hk _ _ (Ne.symm h2) e, fun b o e => hk _ _ (fun q => ?_) (F.keep b o e), F.above⟩
  rw [q, h3] at e; cases e

section
variable {prog : Program} {w : World} {A : Around} {E : Value → Shared → Prop} {s : Shared} {K : Frag} {x dx L : Addr} {h₀ : Heap} {m mg mb : PySem.Str → Option Value} {news : List (Addr × Obj)} {p : Program} {loose : List PySem.Str} {mean : ExcName → Option Value}

theorem Gen.toks {a : Addr} {n : Nat} {F : Nat → Value → Prop} {tk : Nat} (G : Gen prog w A L a n F s) (h : s.toks ≤ tk) : Gen prog w A L a n F { s with toks := tk } := by
  obtain ⟨fp, wr, g, St, W, hst, a1, a2, a3, a4⟩ := G
  exact ⟨fp, wr, g, St, W, W.frame _ _ _ _ hst h fun _ _ _ e => e, a1, a2, a3, a4⟩

abbrev lenF (ws : List PySem.Str) (n : Nat) : Nat → Value → Prop := fun j y => ∃ i, (List.range n)[j]? = some i ∧ ∃ t, y = .int (1 + (ws.getD i (Str.ofString "")).length : Int) t

theorem gen_len_K {nm : PySem.Str} {sc : Scope} {fa : Addr} {p1 p2 p3 p4 p5 p6 p7 pa pb pt pi pos : Pos} {kt : Nat} {Q : Value → Shared → Prop} {its : Array Value} {n : Nat} {od : Obj} {ps : Array Value} {news' : Array Value → List (Addr × Obj)} {ws : List PySem.Str}
    (F : Fr h₀ L s.heap m) (X₀ : (Mine.hd.heap_1 w.params).In h₀) (N : News h₀ L s.heap news) (T : Top p loose mean mg mb h₀) (hk : sc.kind = .function) (hself : (envOf nm sc L fa (.ref 186)).kindOf (Str.ofString "self") = some .local) (hv : m (Str.ofString "self") = some (.ref x))
    (hclos : closureFor { kind := .function, names := [(Str.ofString ".0", .local), (Str.ofString "fws", .local), (Str.ofString "part", .local), (Str.ofString "len", .globalImplicit)], isGenerator := true, isCoroutine := false, more := [] } (envOf nm sc L fa (.ref 186)) = pure [])
    (hh : A.handled = none) (hroom : A.depth < recursionLimit)
    (hm1 : (x, accO dx its n) ∈ news) (hm2 : (dx, od) ∈ news) (U : ∀ ps', Upd 182 (tabObj ps) (tabObj ps') news (news' ps')) (hps : psOk pos ps) (hT : TupsAt s.heap its ws) (hl : ∀ v ∈ ws, v.length ≤ 1000)
    (h : ∀ a ps' h' gs tk lo, Fr h₀ L h' m → News h₀ L h' (news' ps') → psOk pos ps' → (AllBare s.gens → AllBare gs) → L ≤ lo → (∀ q ∈ news' ps', q.1 ≤ lo) →
      Gen prog w A lo a its.size (lenF ws its.size) { s with heap := h', gens := gs, toks := tk } → Q (.ref a) { s with heap := h', gens := gs, toks := tk }) :
    wpAny (model prog w) A (eval (.GeneratorExp (.BinOp (.Call (.Name (Str.ofString "len") p1) [.Name (Str.ofString "fws") p2] [] p3) .Add (.Call (.Name (Str.ofString "len") p4) [.Name (Str.ofString "part") p5] [] p6) p7)
      [⟨.Tuple [.Name (Str.ofString "fws") pa, .Name (Str.ofString "part") pb] kt pt, .Name (Str.ofString "self") pi, [], 0⟩]
      { kind := .function, names := [(Str.ofString ".0", .local), (Str.ofString "fws", .local), (Str.ofString "part", .local), (Str.ofString "len", .globalImplicit)], isGenerator := true, isCoroutine := false, more := [] } pos) (envOf nm sc L fa (.ref 186))) Q E s := by
  obtain ⟨bm, ob, b1, b2, b3, b4, b5, b6⟩ := T.bmain
  have X := X₀.keeps F.keep
  have hP : s.heap.get? 182 = some (tabObj ps) := (N _ (upd_here (U #[]))).1
  have hd := hd_of X (hd186 _)
  have hsz := hT.1
  have hnth : ∀ j, j < its.size → ∃ T tf tv, its[j]? = some (.ref T) ∧ s.heap.IsTuple T #[.str (Str.ofString " ") tf, .str (ws.getD j (Str.ofString "")) tv] := fun j hj => by
    have hj' : j < ws.length := hsz ▸ hj
    obtain ⟨T, tf, tv, e1, e2⟩ := hT.2 j hj'
    exact ⟨T, tf, tv, e1, by rw [List.getD_eq_getElem?_getD, List.getElem?_eq_getElem hj']; exact e2⟩
  let Ts : Nat → Addr := fun j => if hj : j < its.size then (hnth j hj).choose else 0
  let tfs : Nat → Tok := fun j => if hj : j < its.size then (hnth j hj).choose_spec.choose else 0
  let tvs : Nat → Tok := fun j => if hj : j < its.size then (hnth j hj).choose_spec.choose_spec.choose else 0
  have hTs : ∀ j, j < its.size → its[j]? = some (.ref (Ts j)) ∧ s.heap.IsTuple (Ts j) #[.str (Str.ofString " ") (tfs j), .str (ws.getD j (Str.ofString "")) (tvs j)] := fun j hj => by
    have := (hnth j hj).choose_spec.choose_spec.choose_spec
    simp only [Ts, tfs, tvs, dif_pos hj]
    exact this
  refine gen_self (F := fun i y => ∃ t, y = .int (1 + (ws.getD i (Str.ofString "")).length : Int) t) rfl hd hP hps ⟨T.g.keeps F.keep, b1, b2, F.keep _ _ b3, b4, b5, b6⟩ (T.nolimit.keeps F.keep) hh rfl hclos (by decide) (by decide +kernel) (by decide +kernel) (by decide +kernel) (by decide +kernel) rfl hroom
    X (InstAt.ofAcc N hm1 hm2) (by kernel_rfl) (by kernel_rfl) ⟨_, _, (N _ hm1).1, rfl⟩ (fun j hj => (hTs j hj).1) (fun j hj => (hTs j hj).2) (fun Q' hq => wpAny_Name (wpAny_loadName_local hk hself F.ns hv hq) (by decide)) ?_ ?_ ?_
  · intro A' E' i s₂ m₂ cenv hA' hi hsc hgl hbl hn h1 h2 hkeep
    have hg2 : s₂.heap.Ns cenv.globals mg := by
      rw [hgl]; show s₂.heap.Ns mainGlobals mg
      obtain ⟨o, es, ep, e, r⟩ := T.g.keeps F.keep
      refine ⟨o, es, ep, hkeep _ _ ?_ e, r⟩
      intro q; rw [q, hP] at e; cases e; obtain ⟨r1, r2⟩ := r; cases r1
    have hb2 : s₂.heap.Ns cenv.builtins mb := by
      rw [hbl]
      obtain ⟨o, es, ep, e, r⟩ := T.b.keeps F.keep
      refine ⟨o, es, ep, hkeep _ _ ?_ e, r⟩
      intro q; rw [q, hP] at e; cases e; obtain ⟨r1, r2⟩ := r; cases r1
    have hlen : (ws.getD i (Str.ofString "")).length ≤ 1000 := by
      rw [List.getD_eq_getElem?_getD, List.getElem?_eq_getElem (hsz ▸ hi)]
      exact hl _ (List.getElem_mem _)
    refine elt_len (by rw [hsc]) (by unfold Env.kindOf; rw [hsc]; decide +kernel) (by unfold Env.kindOf; rw [hsc]; decide +kernel) (by unfold Env.kindOf; rw [hsc]; decide +kernel) hg2 (mg_none_of X₀ T.g (by kernel_rfl)) hb2 ((T.builtins _ (by decide)).trans (by boot_fast)) hn h1 h2 (by decide +kernel) hlen fun t k => ⟨⟨t, ?_⟩, _, _, rfl, fun _ _ e => e⟩
    rw [show (Str.ofString " ").length = 1 from by decide +kernel]; rfl
  · intro a ps' s₅ hk5 hps' hP' hg hos hdr hsz5 G
    obtain ⟨h5, g5, d5, t5, o5⟩ := s₅
    dsimp only at hk5 hP' hg hos hdr hsz5 G ⊢
    subst hos hdr
    exact h a ps' h5 g5 t5 _ (fr_after1 F N (upd_here (U #[])) hk5) (news_after1 N (U ps') hk5 hP') hps' hg F.kb1 (fun q hq => (upd_mem (U ps') q hq).elim (fun e => Nat.le_trans (Nat.le_of_eq (congrArg Prod.fst e)) (News.le N (182, tabObj ps) (upd_here (U ps')))) fun e => News.le N _ e.1) G
  · intro x; rfl
end
end Mine
end
section
open PySem PySem.W PyProof.Rows PySem.Calls PySem.Spec
set_option maxRecDepth 100000
namespace Mine
section
variable {prog : Program} {w : World} {A : Around} {E : Value → Shared → Prop} {s : Shared} {K : Frag} {x dx L : Addr} {h₀ : Heap} {m mg mb : PySem.Str → Option Value} {news : List (Addr × Obj)} {p : Program} {loose : List PySem.Str} {mean : ExcName → Option Value}

def globStr (K : Frag) (nm v : PySem.Str) : Bool := match nsIn K mainGlobals nm with | some (some (.str x _)) => x == v | _ => false
theorem glob_str {K : Frag} {nm v : PySem.Str} (e : globStr K nm v = true) : ∃ t, nsIn K mainGlobals nm = some (some (.str v t)) := by
  unfold globStr at e
  split at e
  · rename_i x t h
    rw [h, beq_iff_eq.mp e]
    exact ⟨t, rfl⟩
  · cases e
theorem empty_glob (P : Params) : globStr (Mine.hd.heap_1 P) (Str.ofString "EMPTYSTRING") (Str.ofString "") = true := by kernel_rfl

abbrev strF (ws : List PySem.Str) (n : Nat) : Nat → Value → Prop := fun j y => ∃ i, (List.range n)[j]? = some i ∧ ∃ t, y = .str (Str.ofString " " ++ ws.getD i (Str.ofString "")) t

theorem gen_join_K {nm : PySem.Str} {sc : Scope} {fa : Addr} {p1 p2 p3 p4 p5 p6 pa pb pt pi pos : Pos} {kt k0 : Nat} {Q : Value → Shared → Prop} {its : Array Value} {n : Nat} {od : Obj} {ps : Array Value} {news' : Array Value → List (Addr × Obj)} {ws : List PySem.Str}
    (hline : (p2.endLine == p6.line) = true) (F : Fr h₀ L s.heap m) (X₀ : (Mine.hd.heap_1 w.params).In h₀) (N : News h₀ L s.heap news) (T : Top p loose mean mg mb h₀) (hk : sc.kind = .function) (hself : (envOf nm sc L fa (.ref 193)).kindOf (Str.ofString "self") = some .local) (hv : m (Str.ofString "self") = some (.ref x))
    (hclos : closureFor { kind := .function, names := [(Str.ofString ".0", .local), (Str.ofString "fws", .local), (Str.ofString "part", .local), (Str.ofString "EMPTYSTRING", .globalImplicit)], isGenerator := true, isCoroutine := false, more := [] } (envOf nm sc L fa (.ref 193)) = pure [])
    (hh : A.handled = none) (hroom : A.depth < recursionLimit)
    (hm1 : (x, accO dx its n) ∈ news) (hm2 : (dx, od) ∈ news) (U : ∀ ps', Upd 189 (tabObj ps) (tabObj ps') news (news' ps')) (hps : psOk pos ps) (hT : TupsAt s.heap its ws) (hl : ∀ v ∈ ws, v.length ≤ 1000)
    (h : ∀ a ps' h' gs tk lo, Fr h₀ L h' m → News h₀ L h' (news' ps') → psOk pos ps' → (AllBare s.gens → AllBare gs) → L ≤ lo → (∀ q ∈ news' ps', q.1 ≤ lo) →
      Gen prog w A lo a its.size (strF ws its.size) { s with heap := h', gens := gs, toks := tk } → Q (.ref a) { s with heap := h', gens := gs, toks := tk }) :
    wpAny (model prog w) A (eval (.GeneratorExp (.Call (.Attribute (.Name (Str.ofString "EMPTYSTRING") p1) (Str.ofString "join") p2) [.Tuple [.Name (Str.ofString "fws") p3, .Name (Str.ofString "part") p4] k0 p5] [] p6)
      [⟨.Tuple [.Name (Str.ofString "fws") pa, .Name (Str.ofString "part") pb] kt pt, .Name (Str.ofString "self") pi, [], 0⟩]
      { kind := .function, names := [(Str.ofString ".0", .local), (Str.ofString "fws", .local), (Str.ofString "part", .local), (Str.ofString "EMPTYSTRING", .globalImplicit)], isGenerator := true, isCoroutine := false, more := [] } pos) (envOf nm sc L fa (.ref 193))) Q E s := by
  obtain ⟨bm, ob, b1, b2, b3, b4, b5, b6⟩ := T.bmain
  have X := X₀.keeps F.keep
  have hP : s.heap.get? 189 = some (tabObj ps) := (N _ (upd_here (U #[]))).1
  have hd := hd_of X (hd193 _)
  have hsz := hT.1
  have hnth : ∀ j, j < its.size → ∃ T tf tv, its[j]? = some (.ref T) ∧ s.heap.IsTuple T #[.str (Str.ofString " ") tf, .str (ws.getD j (Str.ofString "")) tv] := fun j hj => by
    have hj' : j < ws.length := hsz ▸ hj
    obtain ⟨T, tf, tv, e1, e2⟩ := hT.2 j hj'
    exact ⟨T, tf, tv, e1, by rw [List.getD_eq_getElem?_getD, List.getElem?_eq_getElem hj']; exact e2⟩
  let Ts : Nat → Addr := fun j => if hj : j < its.size then (hnth j hj).choose else 0
  let tfs : Nat → Tok := fun j => if hj : j < its.size then (hnth j hj).choose_spec.choose else 0
  let tvs : Nat → Tok := fun j => if hj : j < its.size then (hnth j hj).choose_spec.choose_spec.choose else 0
  have hTs : ∀ j, j < its.size → its[j]? = some (.ref (Ts j)) ∧ s.heap.IsTuple (Ts j) #[.str (Str.ofString " ") (tfs j), .str (ws.getD j (Str.ofString "")) (tvs j)] := fun j hj => by
    have := (hnth j hj).choose_spec.choose_spec.choose_spec
    simp only [Ts, tfs, tvs, dif_pos hj]
    exact this
  refine gen_self (F := fun i y => ∃ t, y = .str (Str.ofString " " ++ ws.getD i (Str.ofString "")) t) rfl hd hP hps ⟨T.g.keeps F.keep, b1, b2, F.keep _ _ b3, b4, b5, b6⟩ (T.nolimit.keeps F.keep) hh rfl hclos (by decide) (by decide +kernel) (by decide +kernel) (by decide +kernel) (by decide +kernel) rfl hroom
    X (InstAt.ofAcc N hm1 hm2) (by kernel_rfl) (by kernel_rfl) ⟨_, _, (N _ hm1).1, rfl⟩ (fun j hj => (hTs j hj).1) (fun j hj => (hTs j hj).2) (fun Q' hq => wpAny_Name (wpAny_loadName_local hk hself F.ns hv hq) (by decide)) ?_ ?_ ?_
  · intro A' E' i s₂ m₂ cenv hA' hi hsc hgl hbl hn h1 h2 hkeep
    have hg2 : s₂.heap.Ns cenv.globals mg := by
      rw [hgl]; show s₂.heap.Ns mainGlobals mg
      obtain ⟨o, es, ep, e, r⟩ := T.g.keeps F.keep
      refine ⟨o, es, ep, hkeep _ _ ?_ e, r⟩
      intro q; rw [q, hP] at e; cases e; obtain ⟨r1, r2⟩ := r; cases r1
    have hlen : (ws.getD i (Str.ofString "")).length ≤ 1000 := by
      rw [List.getD_eq_getElem?_getD, List.getElem?_eq_getElem (hsz ▸ hi)]
      exact hl _ (List.getElem_mem _)
    obtain ⟨te, he⟩ := glob_str (empty_glob w.params)
    refine elt_join hline (by rw [hsc]) (by unfold Env.kindOf; rw [hsc]; decide +kernel) (by unfold Env.kindOf; rw [hsc]; decide +kernel) (by unfold Env.kindOf; rw [hsc]; decide +kernel) hg2 (mg_of X₀ T.g he) hn h1 h2 (by decide +kernel) hlen fun t h' k hk' => ⟨⟨t, rfl⟩, _, _, rfl, hk'⟩
  · intro a ps' s₅ hk5 hps' hP' hg hos hdr hsz5 G
    obtain ⟨h5, g5, d5, t5, o5⟩ := s₅
    dsimp only at hk5 hP' hg hos hdr hsz5 G ⊢
    subst hos hdr
    exact h a ps' h5 g5 t5 _ (fr_after1 F N (upd_here (U #[])) hk5) (news_after1 N (U ps') hk5 hP') hps' hg F.kb1 (fun q hq => (upd_mem (U ps') q hq).elim (fun e => Nat.le_trans (Nat.le_of_eq (congrArg Prod.fst e)) (News.le N (189, tabObj ps) (upd_here (U ps')))) fun e => News.le N _ e.1) G
  · intro x; rfl

def lenW (ws : List PySem.Str) : Int := (ws.map fun v => (1 + v.length : Int)).sum
def txt (ws : List PySem.Str) : PySem.Str := Txt.join (Str.ofString "") (ws.map fun v => Str.ofString " " ++ v)

theorem preSum_ws (ws : List PySem.Str) : preSum (fun i => (1 + (ws.getD i (Str.ofString "")).length : Int)) ws.length = lenW ws := by
  have key : ∀ n, n ≤ ws.length → preSum (fun i => (1 + (ws.getD i (Str.ofString "")).length : Int)) n = lenW (ws.take n) := by
    intro n
    induction n with
    | zero => intro _; rfl
    | succ n ih =>
      intro hn
      have hn' : n < ws.length := hn
      rw [preSum, ih (by omega), List.take_add_one, List.getElem?_eq_getElem hn']
      unfold lenW
      simp only [Option.toList, List.map_append, List.map_cons, List.map_nil, List.sum_append, List.sum_cons, List.sum_nil, List.getD_eq_getElem?_getD, List.getElem?_eq_getElem hn', Option.getD_some, Int.add_zero]
  rw [key _ (Nat.le_refl _), List.take_length]

theorem map_range_ws (ws : List PySem.Str) : (List.range ws.length).map (fun i => Str.ofString " " ++ ws.getD i (Str.ofString "")) = ws.map fun v => Str.ofString " " ++ v := by
  apply List.ext_getElem
  · simp
  · intro i h1 h2
    have hi : i < ws.length := by simpa using h2
    simp [List.getD_eq_getElem?_getD, List.getElem?_eq_getElem hi]

theorem range_get {n j i : Nat} (h : (List.range n)[j]? = some i) : i = j := by
  obtain ⟨hj, e⟩ := List.getElem?_eq_some_iff.mp h
  simpa using e.symm

theorem sum_len_K {a : Addr} {its : Array Value} {ws : List PySem.Str} {t0 : Tok} {lo : Nat} {Q : Value → Shared → Prop} (F : Fr h₀ L s.heap m) (N : News h₀ L s.heap news) (G : Gen prog w A lo a its.size (lenF ws its.size) s)
    (hn : ws.length = its.size) (hlo : L ≤ lo) (hlo2 : ∀ q ∈ news, q.1 ≤ lo)
    (h : ∀ h' gs tk t', Fr h₀ L h' m → News h₀ L h' news → (AllBare s.gens → AllBare gs) → (∀ b o, b ≤ lo → s.heap.get? b = some o → h'.get? b = some o) → Q (.int (lenW ws) t') { s with heap := h', gens := gs, toks := tk }) :
    wpAny (model prog w) A (call (.builtin "sum") [.ref a, .int 0 t0]) Q E s := by
  obtain ⟨fp, wr, g, St, W, hst, _, _, hfp, hwr⟩ := G
  have W := W.in4_1
  refine call_sum2 (W.self 0 _ _ _ hst ⟨a, _, _, _, _, _, _, fun i => (1 + (ws.getD i (Str.ofString "")).length : Int), rfl, W, hst, hfp, ?_, fun s' t' hm => ?_⟩)
  · rintro j v ⟨i, hi, t, rfl⟩
    rw [range_get hi]
    exact ⟨t, rfl⟩
  · have k : ∀ b o, b ≤ lo → s.heap.get? b = some o → s'.heap.get? b = some o := fun b o hb e => hm.heap b o (fun hw => Nat.lt_irrefl _ (Nat.lt_of_lt_of_le (hwr b hw) hb)) e
    have F' : Fr h₀ L s'.heap m := F.moved hm fun b hb => Nat.lt_of_le_of_lt hlo (hwr b hb)
    obtain ⟨h5, g5, d5, t5, o5⟩ := s'
    have e1 := hm.drawn
    have e2 := hm.os
    dsimp only at e1 e2 k F' ⊢
    subst e1 e2
    rw [← hn, preSum_ws]
    exact h h5 g5 t5 t' F' (fun q hq => ⟨k _ _ (hlo2 q hq) (N q hq).1, (N q hq).2⟩) (fun x => x.moved hm.gens) k

theorem join_str_K {a : Addr} {its : Array Value} {ws : List PySem.Str} {t0 : Tok} {lo : Nat} {Q : Value → Shared → Prop} (F : Fr h₀ L s.heap m) (N : News h₀ L s.heap news) (G : Gen prog w A lo a its.size (strF ws its.size) s) (hn : ws.length = its.size) (hl : ∀ v ∈ ws, v.length ≤ 1000)
    (hz : its.size ≤ 1000) (hlo : L ≤ lo) (hlo2 : ∀ q ∈ news, q.1 ≤ lo)
    (h : ∀ h' gs tk t', Fr h₀ L h' m → News h₀ L h' news → (AllBare s.gens → AllBare gs) → (∀ b o, b ≤ lo → s.heap.get? b = some o → h'.get? b = some o) → Q (.str (txt ws) t') { s with heap := h', gens := gs, toks := tk }) :
    wpAny (model prog w) A (call (.builtin "str.join") [.str (Str.ofString "") t0, .ref a]) Q E s := by
  obtain ⟨fp, wr, g, St, W, hst, hT, ha, hfp, hwr⟩ := G
  have W := W.in4_2
  refine SC.joinGen W hT hst hfp ha (fun j v hv => let ⟨i, e, t, r⟩ := hv; ⟨_, t, r⟩) (fun s' lt hm hacc => ?_) (by rw [sizeLine_eq]; omega)
  have hlt : lt.map (·.1) = ws.map fun v => Str.ofString " " ++ v := by
    rw [← map_range_ws]
    apply List.ext_getElem?
    intro j
    have hsz : lt.length = its.size := by simpa [strValues] using hacc.1
    by_cases hj : j < its.size
    · have hj' : j < lt.length := hsz ▸ hj
      obtain ⟨i, hi, t, e⟩ := hacc.2 j (.str lt[j].1 lt[j].2) (by simp [strValues, List.getElem?_eq_getElem hj'])
      rw [range_get hi] at e
      have hjw : j < ws.length := hn ▸ hj
      simp only [List.getElem?_map, List.getElem?_eq_getElem hj', Option.map_some, List.getElem?_range hjw]
      injection e with e1 e2
      rw [e1]
    · rw [List.getElem?_eq_none (by simp; omega), List.getElem?_eq_none (by simp; omega)]
  have k : ∀ b o, b ≤ lo → s.heap.get? b = some o → s'.heap.get? b = some o := fun b o hb e => hm.heap b o (fun hw => Nat.lt_irrefl _ (Nat.lt_of_lt_of_le (hwr b hw) hb)) e
  have F' : Fr h₀ L s'.heap m := F.moved hm fun b hb => Nat.lt_of_le_of_lt hlo (hwr b hb)
  rw [hlt]
  refine ⟨?_, fun t' k' => ?_⟩
  · refine joinOk_of ?_
    have z0 : (Str.ofString "").length = 0 := by decide +kernel
    have z1 : (Str.ofString " ").length = 1 := by decide +kernel
    have key : ∀ l : List PySem.Str, (∀ v ∈ l, v.length ≤ 1000) → ((l.map fun v => Str.ofString " " ++ v).map (·.length)).sum ≤ 1001 * l.length := by
      intro l
      induction l with
      | nil => intro _; simp
      | cons a l ih =>
        intro hh
        have h1 := hh a (.head _)
        have h2 := ih fun v hv => hh v (.tail _ hv)
        simp only [List.map_cons, List.sum_cons, List.length_cons, PySem.Str.length_append, z1]
        omega
    have := key ws hl
    rw [z0]
    omega
  · obtain ⟨h5, g5, d5, t5, o5⟩ := s'
    have e1 := hm.drawn
    have e2 := hm.os
    dsimp only at e1 e2 k F' ⊢
    subst e1 e2
    exact h h5 g5 k' t' F' (fun q hq => ⟨k _ _ (hlo2 q hq) (N q hq).1, (N q hq).2⟩) (fun x => x.moved hm.gens) k
end
theorem TupsAt.size {h : Heap} {its : Array Value} {ws : List PySem.Str} (x : TupsAt h its ws) : its.size = ws.length := x.1
theorem TupsAt.kb {h₀ h g : Heap} {L : Addr} {E : List (Addr × Obj)} {its : Array Value} {ws : List PySem.Str} (x : TupsAt h its ws) (N : News h₀ L h E) (k : KB E h g) (hE : ∀ p ∈ E, p.2.cls ≠ .type "tuple") : TupsAt g its ws :=
  x.keeps fun b o e hc => k b o (fun hb => by
    obtain ⟨q, hq, rfl⟩ := List.mem_map.mp hb
    have := (N q hq).1
    rw [e] at this
    cases this
    exact hE q hq hc) e
abbrev pos132 : Pos := ⟨132, 19, 132, 63⟩
abbrev pos135 : Pos := ⟨135, 32, 135, 85⟩
abbrev accE (x dx : Addr) (its : Array Value) (n n1 : Nat) (e1 : Int) (k1 t0 : Tok) : List (Addr × Obj) := [(x, accO dx its n), (dx, dictOf [⟨e1, .str (Str.ofString "_initial_size") k1, .int 0 t0⟩] n1)]
end Mine
end
section
open PySem PySem.W PyProof.Rows PySem.Calls PySem.Spec
set_option maxRecDepth 100000
namespace Mine
abbrev boundB (T i : String) (x : Addr) : Obj := { cls := .type T, data := .fields #[.builtin i, .ref x] }
section
variable {prog : Program} {w : World} {A₀ A : Around} {E : Value → Shared → Prop} {s : Shared} {base h₀ : Heap} {outer : List Env} {L x C D so : Addr} {m mg mb : PySem.Str → Option Value} {env : Env} {news : List (Addr × Obj)} {K : Frag} {p : Program} {loose : List PySem.Str} {mean : ExcName → Option Value}
  {ox : Obj} {od : Option Obj}

theorem ks_codeR {R : Result → Shared → Prop} {name qual : PySem.Str} {params : Arguments} {body : List Stmt} {scope : Scope} {dV kV doc pm cdv ct oc : Value} {an od : Option Addr} {osl : Array (Option Value)} {f cc : Addr} {args : Args} {binds : List (PySem.Str × Value)}
    (B : Below A₀ base outer h₀) (F : Fr h₀ L s.heap m) (X₀ : K.In h₀) (N : News h₀ L s.heap news) (T : Top p loose mean mg mb h₀) (hA : A.frames = some (env :: outer)) (hf : env.frame = some L) (hke : env.scope.kind = .function)
    (ho : K.lookup f = some ⟨oc, od, .func (ksFn name qual params body scope dV kV doc pm an cdv ct cc), osl⟩) (hcd : codeIn K cdv qual = true) (hroom : A.depth < recursionLimit)
    (hbind : BindsTo s (ksFn name qual params body scope dV kV doc pm an cdv ct cc) args binds) (hloc : ∀ y ∈ binds, scope.names.lookup y.1 = some .local)
    (h : ∀ g L' h₁, KB news s.heap g → Fr h₀ L g m → Fr g L' h₁ (fun y => binds.reverse.lookup y) → News g L' h₁ news → Below A base (env :: outer) g → K.In g → Top p loose mean mg mb g → (∀ p ∈ news, p.1 < L') →
      _root_.PySem.wpAt (model prog w) (A.deeper (ksEnv qual scope L' f cdv cc)) (.func body (ksEnv qual scope L' f cdv cc)) (execs body (ksEnv qual scope L' f cdv cc))
        (fun fl s' => LeaveK h₀ L m g R (match fl with | .ret v => v | _ => .none) s')
        (fun e s' => wpAny (model prog w) (A.deeper (ksEnv qual scope L' f cdv cc)) (leaving (ksEnv qual scope L' f cdv cc) e) (fun _ s'' => R (.error e) s'') (fun e' s'' => R (.error e') s'') s')
        { s with heap := h₁, toks := s.toks + binds.length })
    (hcell : ∀ x ∈ scope.names, x.2 ≠ .cell) (hco : scope.isCoroutine = false) (hgen : scope.isGenerator = false) (hk : scope.kind = .function) : codeAny (model prog w) A (.call (.ref f) args) R s := by
  obtain ⟨FG, BG, st, lv⟩ := groundX (R := R) B F N hA hf hke
  refine ks_codeAny_call_defAt (fd := ksFn name qual params body scope dV kV doc pm an cdv ct cc) (body := body) (binds := binds) hroom ((X₀.keeps F.keep) _ _ ho) rfl (T.nolimit.keeps F.keep) (codeRec_of (X₀.keeps F.keep) hcd) rfl hbind hcell hloc (fun h₁ hns hk₁ => ?_) hco hgen hk
  exact ks_wpAt_mono (h _ s.heap.objs.size h₁ (fun b o hb e => hideAll_get _ e hb) FG ⟨hns, fun b o e => hk₁ b o (of_hideAll _ e), Nat.le_of_eq (hideAll_size _ _)⟩
    (fun p hp => ⟨hk₁ _ _ (N p hp).1, Nat.ne_of_lt (Heap.lt_size (N p hp).1), hideAll_none _ (List.mem_map_of_mem hp)⟩) BG (X₀.keeps st) (T.keeps st) (fun p hp => Heap.lt_size (N p hp).1)) (fun fl s' hl => lv _ _ hl) fun _ _ y => y

theorem super_ga_bi {h : Heap} {g : Array GenState} {d : Drawn} {t : Nat} {os : OsState} {T i gi : String} {bo : Obj} {l₀ l : List Value} {name : PySem.Str} {tk : Tok} {Q : Fin → Shared → Prop}
    (hso : h.get? so = some (ks_superObj D x C)) (hno : Looks (model prog w) h (opaqueClassAbove (.ref C)) none)
    (hC : Looks (model prog w) h (mroOf (.ref C)) l₀) (hl : (l₀.dropWhile (· != .ref D)).drop 1 = l) (X : K.In h)
    (hf : alongIn K name l = some (some (.builtin i))) (ht : typeOf (.builtin i) = pure (.type T)) (hlk : typeLookup (.type T) "__get__" = pure (some (.builtin gi))) (hxC : x ≠ C) (hn : (name == ("__class__" : PySem.Str)) = false)
    (hcall : ∀ Q' : Value → Shared → Prop, Q' (.ref h.objs.size) ⟨h.push bo, g, d, t, os⟩ → wpAny (model prog w) A (call (.builtin gi) [.builtin i, .ref x, .ref C]) Q' E ⟨h, g, d, t, os⟩)
    (hq : Q (.done (.ret (.ref h.objs.size))) ⟨h.push bo, g, d, t, os⟩) :
    wpAny (model prog w) A (Builtin.«super.__getattribute__» ⟨[.ref so, .str name tk], []⟩) Q E ⟨h, g, d, t, os⟩ := by
  have hne : (Value.ref x == Value.ref C) = false := by simp [hxC]
  have hdt : (ks_superObj D x C).data = .fields #[.ref D, .ref x, .ref C] := rfl
  have f0 : (#[.ref D, .ref x, .ref C] : Array Value)[0]? = some (.ref D) := rfl
  have f1 : (#[.ref D, .ref x, .ref C] : Array Value)[1]? = some (.ref x) := rfl
  have f2 : (#[.ref D, .ref x, .ref C] : Array Value)[2]? = some (.ref C) := rfl
  unfold Builtin.«super.__getattribute__»
  repeat (first
    | (with_reducible refine wpAny_field hso hdt f0 ?_) | (with_reducible refine wpAny_field hso hdt f1 ?_) | (with_reducible refine wpAny_field hso hdt f2 ?_)
    | (with_reducible refine ks_wpAny_notOpaque hno ?_)
    | (with_reducible refine Looks.at hC ?_; rw [hl])
    | (refine ks_forIn_along X (fun _ _ => rfl) rfl ?_ hf)
    | (with_reducible refine wpAny_of_eq ht ?_)
    | (with_reducible refine wpAny_of_eq hlk ?_)
    | (with_reducible refine hcall _ ?_)
    | (simp only [hn, hne, Bool.or_false, Bool.false_eq_true, if_false])
    | wp_step
    | dsimp only)
  all_goals exact hq

theorem get_super_bi {T i gi BT : String} {name : PySem.Str} {pl : Sem Bool} {Q : Value × List Value → Shared → Prop} (F : Fr h₀ L s.heap m) (X₀ : K.In h₀) (N : News h₀ L s.heap news) (hso : (so, ks_superObj D x C) ∈ news) (I : InstAt s.heap x ox C od) (ho : nsIn K cStatics "thirdparty.any" = some none)
    (hm : ks_superIn K C D name = some (some (.builtin i))) (ht : typeOf (.builtin i) = pure (.type T)) (hlk : typeLookup (.type T) "__get__" = pure (some (.builtin gi))) (hn : (name == ("__class__" : PySem.Str)) = false)
    (hcall : ∀ (A' : Around) (s' : Shared) (E' Q' : Value → Shared → Prop), s'.heap = s.heap → Q' (.ref s'.heap.objs.size) { s' with heap := s'.heap.push (boundB BT i x) } → wpAny (model prog w) A' (call (.builtin gi) [.builtin i, .ref x, .ref C]) Q' E' s')
    (h : ∀ q h', Fr h₀ L h' m → News h₀ L h' ((q, boundB BT i x) :: news) → (∀ p ∈ news, p.1 < q) → Q (.ref q, []) { s with heap := h', toks := s.toks + 1 }) : wpAny (model prog w) A (getMethod (.ref so) name pl) Q E s := by
  have X : K.In s.heap := X₀.keeps F.keep
  obtain ⟨hh, g, d, t, os⟩ := s
  cases hc : clsIn K C with
  | none => unfold ks_superIn at hm; rw [hc] at hm; cases hm
  | some cd =>
    unfold ks_superIn at hm
    rw [hc] at hm
    have hso' := (N _ hso).1
    have hT : ∀ t', (⟨hh, g, d, t', os⟩ : Shared).TypeIs (.ref so) "super" := fun _ => ⟨_, hso', rfl⟩
    unfold getMethod
    refine wpAny_bind (wpAny_specialOf (hT _) PySem.F.ks_slot_super_ga.lookup ?_)
    show wpAny _ _ (if (Manifest.canonical "super.__getattribute__" != "object.__getattribute__") = true then _ else _) _ _ _
    rw [if_pos PySem.F.ks_canon_super_ga]
    unfold getAttr getAttrBy
    refine wpAny_bind (wpAny_bind (wpAny_mkText (wpAny_holding (wpAny_bind (wpAny_typeOf (hT _) (wpAny_bind (wpAny_of_eq PySem.F.ks_slot_super_ga.lookup ?_)))))))
    show wpAny _ _ (getAttrByItsOwn (.ref so) (.str name t) (.type "super") (.builtin "super.__getattribute__") true false) _ _ _
    unfold getAttrByItsOwn hookBefore callGetattribute boundAndCalled
    refine wpAny_bind (wpAny_of_eq (show (if onTheHeap (.type "super") then typeLookup (.type "super") "__getattr__" else pure none) = pure none from rfl) ?_)
    refine wpAny_bind (wpAny_attempt (wpAny_holding ?_))
    show wpAny _ _ (bindSpecial (.builtin "super.__getattribute__") (.ref so) >>= _) _ _ _
    refine wpAny_bind (wpAny_of_eq (PySem.F.ks_slot_super_ga.bind _) ?_)
    refine wpAny_mono (Q := fun v s' => v = .ref hh.objs.size ∧ s' = ⟨hh.push (boundB BT i x), g, d, t + 1, os⟩) (E := fun _ _ => False)
      (wpAny_call_entry PySem.F.ks_slot_super_ga (hT _) PySem.F.ks_entry_super_ga (super_ga_bi hso' (looks_opaque X ho) (l₀ := cd.mro) ?_ rfl X hm ht hlk (ks_ne X I hc) hn ?_ ⟨_, rfl, rfl, rfl⟩) (PySem.F.ks_gaArgs_super _ _)) (fun v s' hv => ?_) fun _ _ z => z.elim
    · exact fun A Q E s k q => wpAny_bind ((looks_clsIn X hc) A _ E s k (wpAny_pure q))
    · intro Q' hq'
      exact hcall _ ⟨hh, g, d, t + 1, os⟩ _ Q' rfl hq'
    · obtain ⟨rfl, rfl⟩ := hv
      refine wpAny_pure (wpAny_pure ?_)
      obtain ⟨F', N', l'⟩ := ks_newsPush (s := ⟨hh, g, d, t, os⟩) (o := boundB BT i x) F N rfl (Heap.get?_push_at rfl rfl) (fun b o e => Heap.get?_push_of_some _ e)
      exact h _ _ F' N' l'
end
end Mine
end
section
open PySem PySem.W PyProof.Rows PySem.Calls PySem.Spec
set_option maxRecDepth 100000
namespace Mine
theorem slot_wget : Slot "wrapper_descriptor" "__get__" "wrapper_descriptor.__get__" :=
  .of (owner := "wrapper_descriptor") (n := "__get__") (by rw [typeLookup_type, builtinLookup_eq_fast]; kernel_rfl) (by decide +kernel) (by decide +kernel) (by decide +kernel)
    (by first | exact .inl (by decide +kernel) | exact .inr (by decide +kernel)) (by rw [isSubtype_type]; kernel_rfl)
theorem slot_mget : Slot "method_descriptor" "__get__" "method_descriptor.__get__" :=
  .of (owner := "method_descriptor") (n := "__get__") (by rw [typeLookup_type, builtinLookup_eq_fast]; kernel_rfl) (by decide +kernel) (by decide +kernel) (by decide +kernel)
    (by first | exact .inl (by decide +kernel) | exact .inr (by decide +kernel)) (by rw [isSubtype_type]; kernel_rfl)
theorem entry_wget : entryFor table "wrapper_descriptor.__get__" = some Builtin.«wrapper_descriptor.__get__» := entryFor_of_tree (by kernel_rfl)
theorem entry_mget : entryFor table "method_descriptor.__get__" = some Builtin.«method_descriptor.__get__» := entryFor_of_tree (by kernel_rfl)
theorem args_wget (a b c : Value) : argsOk "wrapper_descriptor.__get__" ⟨[a, b, c], []⟩ := by unfold argsOk; kernel_rfl
theorem args_mget (a b c : Value) : argsOk "method_descriptor.__get__" ⟨[a, b, c], []⟩ := by unfold argsOk; kernel_rfl
theorem ty_len : typeOf (.builtin "list.__len__") = pure (.type "wrapper_descriptor") := by show builtinType _ = _; rw [builtinType_eq_fast]; kernel_rfl
theorem ty_init : typeOf (.builtin "list.__init__") = pure (.type "wrapper_descriptor") := by show builtinType _ = _; rw [builtinType_eq_fast]; kernel_rfl
theorem ty_pop : typeOf (.builtin "list.pop") = pure (.type "method_descriptor") := by show builtinType _ = _; rw [builtinType_eq_fast]; kernel_rfl
section
variable {prog : Program} {w : World} {M : Model} {A : Around} {E : Value → Shared → Prop} {s : Shared} {x C : Addr}
theorem wget_run {i : String} {nm : PySem.Str} {Q : Value → Shared → Prop} (hi : (kfb_private% "nameAndClass") (.builtin i) = pure (nm, .type "list")) (L : Looks M s.heap (isInstance (.ref x) (.type "list")) true)
    (h : Q (.ref s.heap.objs.size) { s with heap := s.heap.push (boundB "method-wrapper" i x) }) :
    wpAny M A (Builtin.«wrapper_descriptor.__get__» ⟨[.builtin i, .ref x, .ref C], []⟩) (fun fin s' => ∃ v, fin = .done (.ret v) ∧ Q v s') E s := by
  unfold Builtin.«wrapper_descriptor.__get__»
  refine wpAny_bind (wpAny_of_eq (a := (.builtin i, some (.ref x), some (.ref C))) (by first | rfl | kernel_rfl) ?_)
  refine wpAny_bind (m := (kfb_private% "checkInstance") (.builtin i) (.ref x)) ?_
  refine wpAny_bind (m := (kfb_private% "nameAndClass") (.builtin i)) (wpAny_of_eq hi ?_)
  dsimp only
  refine wpAny_bind (L.here ?_)
  refine KFB.if_not rfl ?_
  refine wpAny_pure ?_
  exact wpAny_bind (wpAny_newObj_type (wpAny_pure ⟨_, rfl, h⟩))
theorem mget_run {i : String} {nm : PySem.Str} {Q : Value → Shared → Prop} (hi : (kfb_private% "nameAndClass") (.builtin i) = pure (nm, .type "list")) (ht : Manifest.toldItsClass.contains i = false) (L : Looks M s.heap (isInstance (.ref x) (.type "list")) true)
    (h : Q (.ref s.heap.objs.size) { s with heap := s.heap.push (boundB "builtin_function_or_method" i x) }) :
    wpAny M A (Builtin.«method_descriptor.__get__» ⟨[.builtin i, .ref x, .ref C], []⟩) (fun fin s' => ∃ v, fin = .done (.ret v) ∧ Q v s') E s := by
  unfold Builtin.«method_descriptor.__get__»
  refine wpAny_bind (wpAny_of_eq (a := (.builtin i, some (.ref x), some (.ref C))) (by first | rfl | kernel_rfl) ?_)
  dsimp only
  rw [ht]
  refine KFB.if_not rfl ?_
  refine wpAny_bind (m := (kfb_private% "checkInstance") (.builtin i) (.ref x)) ?_
  refine wpAny_bind (m := (kfb_private% "nameAndClass") (.builtin i)) (wpAny_of_eq hi ?_)
  dsimp only
  refine wpAny_bind (L.here ?_)
  refine KFB.if_not rfl ?_
  refine wpAny_pure ?_
  exact wpAny_bind (wpAny_newObj_type (wpAny_pure ⟨_, rfl, h⟩))
theorem nc_len : (kfb_private% "nameAndClass") (.builtin "list.__len__") = pure (Str.ofString "__len__", .type "list") := by kernel_rfl
theorem nc_init : (kfb_private% "nameAndClass") (.builtin "list.__init__") = pure (Str.ofString "__init__", .type "list") := by kernel_rfl
theorem nc_pop : (kfb_private% "nameAndClass") (.builtin "list.pop") = pure (Str.ofString "pop", .type "list") := by kernel_rfl

theorem call_wget {i : String} {nm : PySem.Str} {Q : Value → Shared → Prop} (ht : typeOf (.builtin i) = pure (.type "wrapper_descriptor")) (hi : (kfb_private% "nameAndClass") (.builtin i) = pure (nm, .type "list")) (L : Looks (model prog w) s.heap (isInstance (.ref x) (.type "list")) true)
    (h : Q (.ref s.heap.objs.size) { s with heap := s.heap.push (boundB "method-wrapper" i x) }) :
    wpAny (model prog w) A (call (.builtin "wrapper_descriptor.__get__") [.builtin i, .ref x, .ref C]) Q E s :=
  wpAny_call_entry slot_wget ht entry_wget (wget_run hi L h) (args_wget _ _ _)

theorem call_mget {i : String} {nm : PySem.Str} {Q : Value → Shared → Prop} (ht : typeOf (.builtin i) = pure (.type "method_descriptor")) (hi : (kfb_private% "nameAndClass") (.builtin i) = pure (nm, .type "list")) (hn : Manifest.toldItsClass.contains i = false) (L : Looks (model prog w) s.heap (isInstance (.ref x) (.type "list")) true)
    (h : Q (.ref s.heap.objs.size) { s with heap := s.heap.push (boundB "builtin_function_or_method" i x) }) :
    wpAny (model prog w) A (call (.builtin "method_descriptor.__get__") [.builtin i, .ref x, .ref C]) Q E s :=
  wpAny_call_entry slot_mget ht entry_mget (mget_run hi hn L h) (args_mget _ _ _)

theorem bound_slot {i : String} {rest : List Value} {Q : Unit → Shared → Prop} (hk : builtinKind i = some .slot) (ha : argsOk i ⟨.ref x :: rest, []⟩) (h : Q () s) : wpAny M A (checkBoundCall i ⟨.ref x :: rest, []⟩) Q E s := by
  unfold checkBoundCall
  cases hsig : Manifest.signature? i with
  | none => exact wpAny_pure h
  | some sig =>
    simp only [argsOk, hsig] at ha
    have h2 : Bind.checkArgs i sig ⟨.ref x :: rest, []⟩ = pure () := ha
    simp only [hk]
    show wpAny M A (if (Manifest.AttrKind.slot != .method && Manifest.AttrKind.slot != .classMethod) = true then Bind.checkArgs i sig ⟨.ref x :: rest, []⟩ else _) Q E s
    rw [if_pos (by decide), h2]
    exact wpAny_pure h

def sigRun (i full : String) (args : Args) : Sem Unit := match Manifest.signature? i with | none => pure () | some sig => Bind.checkArgs i { sig with full := full } args
theorem popArgs_ok (v : Value) : sigRun "list.pop" (toString (Str.ofString "_Accumulator").toString ++ toString "." ++ toString (Bind.lastOf "list.pop")) ⟨[v], []⟩ = pure () := by
  unfold sigRun
  rw [signature?_of (id := "list.pop") (n := ['p', 'o', 'p']) (o := ['t', 's', 'i', 'l']) (by kernel_rfl) PySem.F.owner_list]; kernel_rfl
theorem bound_pop {K : Frag} {ox : Obj} {od : Option Obj} {cd : ClassData} {Q : Unit → Shared → Prop} (X : K.In s.heap) (I : InstAt s.heap x ox C od) (hc : clsIn K C = some cd) (hq : cd.qualname = Str.ofString "_Accumulator") (hm : subIn K (.ref C) (.type "module") = some false) (ht : typeIn K (.ref C) = some (.type "type")) (h : Q () s) :
    wpAny M A (checkBoundCall "list.pop" ⟨[.ref x], []⟩) Q E s := by
  have hp := popArgs_ok (.ref x)
  unfold sigRun at hp
  unfold checkBoundCall
  cases hsig : Manifest.signature? "list.pop" with
  | none => exact wpAny_pure h
  | some sig =>
    simp only [hsig] at hp
    have hk : builtinKind "list.pop" = some .method := by decide +kernel
    simp only [hk]
    show wpAny M A (if (Manifest.AttrKind.method != .method && Manifest.AttrKind.method != .classMethod) = true then _ else _) Q E s
    rw [if_neg (by decide)]
    have L1 : Looks M s.heap (isInstance (.ref x) (.type "module")) false := I.type.andThen (looks_subIn X hm)
    refine wpAny_bind (L1.here ?_)
    rw [show (Manifest.varargsMethods.contains "list.pop" || false) = false from by decide +kernel]
    refine KFB.if_not rfl ?_
    obtain ⟨hh, g, d, t, os⟩ := s
    have hno : ∀ c, ox.data ≠ .cls c := fun c e => by
      have := I.no
      unfold notCls at this
      rw [e] at this
      exact Bool.noConfusion this
    refine wpAny_bind (m := isType (.ref x)) (ks_wpAny_isType_inst I.at_ hno ?_)
    refine KFB.if_not rfl ?_
    refine wpAny_bind (I.type.here ?_)
    dsimp only
    refine wpAny_bind ((looks_clsIn X hc).here ?_)
    refine wpAny_bind ((looks_typeIn X ht).here ?_)
    refine KFB.if_so rfl ?_
    rw [hq, hp]
    exact wpAny_pure h

theorem call_boundB {q : Addr} {T i : String} {b : Builtin} {rest : List Value} {Q : Value → Shared → Prop} (hq : s.heap.get? q = some (boundB T i x)) (hT : T = "builtin_function_or_method" ∨ T = "method-wrapper")
    (hck : ∀ (A' : Around) (Q' : Unit → Shared → Prop) (E' : Value → Shared → Prop), Q' () s → wpAny (model prog w) A' (checkBoundCall i ⟨.ref x :: rest, []⟩) Q' E' s) (hp : plainId i = true) (hb : entryFor table i = some b)
    (hc : ∀ A' : Around, wpAny (model prog w) A' (b ⟨.ref x :: rest, []⟩) (fun fin s' => ∃ v, fin = .done (.ret v) ∧ Q v s') E s) : wpAny (model prog w) A (call (.ref q) rest) Q E s := by
  refine wpAny_call (codeAny_of_tree ?_)
  show wpAny _ A.in1 (callAny (.ref q) ⟨rest, []⟩) _ _ _
  unfold callAny
  refine wpAny_bind (wpAny_load hq ?_)
  have e1 : (Value.type T == Value.type "method" || Value.type T == Value.type "builtin_function_or_method" || Value.type T == Value.type "method-wrapper") = true := by rcases hT with rfl | rfl <;> decide
  have e2 : (Value.type T != Value.type "method") = true := by rcases hT with rfl | rfl <;> decide
  dsimp only
  rw [if_pos e1]
  show wpAny _ _ (if (Value.type T != Value.type "method") = true then _ else _) _ _ _
  rw [if_pos e2]
  refine wpAny_bind (hck _ _ _ ?_)
  refine wpAny_bind (wpAny_pure ?_)
  refine wpAny_pure ⟨plainId_quiet hp _, codeAny_builtin hb (wpAny_mono (hc _) (fun fin s' h' => ?_) fun _ _ h' => h')⟩
  obtain ⟨v, rfl, hv⟩ := h'
  exact hv
end
end Mine
end
section
open PySem PySem.W PyProof.Rows PySem.Calls PySem.Spec
set_option maxRecDepth 100000
namespace Mine
section
variable {prog : Program} {w : World} {M : Model} {A : Around} {E : Value → Shared → Prop} {s : Shared} {x q dx C : Addr} {o : Obj} {xs its : Array Value} {n : Nat} {K : Frag} {ox : Obj} {od : Obj} {h₀ : Heap} {L : Addr} {m : PySem.Str → Option Value} {news news' : List (Addr × Obj)}
theorem listItems_any {Q : Array Value → Shared → Prop} (ho : s.heap.get? x = some o) (hd : o.data = .seq xs n) (h : Q xs s) : wpAny M A (Builtin.List.listItems (.ref x)) Q E s := by
  unfold Builtin.List.listItems
  exact wpAny_bind (wpAny_seqItems ho hd (wpAny_pure h))
theorem len_run {Q : Value → Shared → Prop} (ho : s.heap.get? x = some o) (hd : o.data = .seq xs n) (h : ∀ t k, Q (.int xs.size t) { s with toks := k }) :
    wpAny M A (Builtin.«list.__len__» ⟨[.ref x], []⟩) (fun fin s' => ∃ v, fin = .done (.ret v) ∧ Q v s') E s := by
  unfold Builtin.«list.__len__»
  refine wpAny_bind (wpAny_of_eq (a := (.ref x, [])) (by first | rfl | kernel_rfl) ?_)
  dsimp only
  refine wpAny_bind (m := seqSize x) ?_
  unfold seqSize
  refine wpAny_bind (wpAny_loadPart ho ?_)
  rw [hd]
  refine wpAny_pure ?_
  unfold retInt
  exact wpAny_bind (wpAny_mkInt (wpAny_pure ⟨_, rfl, h _ _⟩))

theorem pop_run {v : Value} {Q : Value → Shared → Prop} (ho : s.heap.get? x = some o) (hd : o.data = .seq xs n) (hv : xs[xs.size - 1]? = some v) (hz : xs.size ≤ sizeLine)
    (h : Q v { s with heap := s.heap.update x (Obj.mapSeq fun ys => ys.eraseIdxIfInBounds (xs.size - 1)) }) :
    wpAny M A (Builtin.«list.pop» ⟨[.ref x], []⟩) (fun fin s' => ∃ v, fin = .done (.ret v) ∧ Q v s') E s := by
  have hpos : 0 < xs.size := by
    rcases Nat.eq_zero_or_pos xs.size with h0 | h0
    · simp [h0] at hv
    · exact h0
  have hne : ¬ xs.isEmpty = true := by
    intro he; have : xs.size = 0 := by simpa using he
    omega
  have hk : seqIndex? (-1) xs.size = some (xs.size - 1) := by
    rw [seqIndex_neg (by omega) (by omega)]; congr 1; omega
  unfold Builtin.«list.pop»
  refine wpAny_bind (wpAny_of_eq (a := (.ref x, [])) (by first | rfl | kernel_rfl) ?_)
  dsimp only
  refine wpAny_bind (wpAny_pure ?_)
  refine KFB.if_not (by decide +kernel) ?_
  refine wpAny_bind (m := Builtin.List.listItems (.ref x)) (listItems_any ho hd ?_)
  refine KFB.if_not (by simpa using hne) ?_
  simp only [hk, hv, Option.bind_some, Option.map_some]
  refine wpAny_bind (m := Builtin.List.listUpdate (.ref x) _) ?_
  have hz' : (xs.eraseIdxIfInBounds (xs.size - 1)).size ≤ sizeLine + 1 := by
    have : (xs.eraseIdxIfInBounds (xs.size - 1)).size ≤ xs.size := by
      unfold Array.eraseIdxIfInBounds
      split
      · rw [Array.size_eraseIdx]; omega
      · exact Nat.le_refl _
    omega
  refine wpAny_updateSeq ho hd (wpAny_pure ⟨_, rfl, h⟩) (hz := hz) (_hz' := hz')

theorem init_run {Q : Value → Shared → Prop} (ho : s.heap.get? x = some o) (hd : o.data = .seq #[] n) 
    (h : Q .none { s with heap := s.heap.update x (Obj.mapSeq fun _ => #[]) }) :
    wpAny M A (Builtin.«list.__init__» ⟨[.ref x], []⟩) (fun fin s' => ∃ v, fin = .done (.ret v) ∧ Q v s') E s := by
  unfold Builtin.«list.__init__»
  simp only [List.isEmpty_nil, Bool.not_true, Bool.false_eq_true, if_false, List.length_nil, gt_iff_lt, Nat.not_lt_zero]
  refine wpAny_bind (m := Builtin.List.listItems (.ref x)) (listItems_any ho hd ?_)
  refine wpAny_bind (m := Builtin.List.listUpdate (.ref x) _) ?_
  refine wpAny_updateSeq ho hd (wpAny_bind (wpAny_letGo ?_)) (hz := by simp) (_hz' := by simp)
  exact wpAny_pure ⟨_, rfl, h⟩

theorem meth_len_K {name : PySem.Str} {so D : Addr} {pl : Sem Bool} {Q : Value × List Value → Shared → Prop} {i T gi : String} {nm : PySem.Str} (F : Fr h₀ L s.heap m) (X₀ : K.In h₀) (N : News h₀ L s.heap news) (hso : (so, ks_superObj D x C) ∈ news) (I : InstAt s.heap x ox C (some od)) (ho : nsIn K cStatics "thirdparty.any" = some none)
    (hsub : subIn K (.ref C) (.type "list") = some true) (hm : ks_superIn K C D name = some (some (.builtin i))) (hn : (name == ("__class__" : PySem.Str)) = false)
    (ht : typeOf (.builtin i) = pure (.type T)) (hT : (T = "wrapper_descriptor" ∧ gi = "method-wrapper") ∨ (T = "method_descriptor" ∧ gi = "builtin_function_or_method")) (hi : (kfb_private% "nameAndClass") (.builtin i) = pure (nm, .type "list")) (hc : Manifest.toldItsClass.contains i = false)
    (h : ∀ q h', Fr h₀ L h' m → News h₀ L h' ((q, boundB gi i x) :: news) → (∀ p ∈ news, p.1 < q) → Q (.ref q, []) { s with heap := h', toks := s.toks + 1 }) : wpAny (model prog w) A (getMethod (.ref so) name pl) Q E s := by
  have L1 : Looks (model prog w) s.heap (isInstance (.ref x) (.type "list")) true := isListL (X₀.keeps F.keep) I hsub
  rcases hT with ⟨rfl, rfl⟩ | ⟨rfl, rfl⟩
  · exact get_super_bi F X₀ N hso I ho hm ht slot_wget.lookup hn (fun A' s' E' Q' e hq => call_wget ht hi (by rw [e]; exact L1) hq) h
  · exact get_super_bi F X₀ N hso I ho hm ht slot_mget.lookup hn (fun A' s' E' Q' e hq => call_mget ht hi hc (by rw [e]; exact L1) hq) h

theorem call_len_K {Q : Value → Shared → Prop} (N : News h₀ L s.heap news) (hq : (q, boundB "method-wrapper" "list.__len__" x) ∈ news) (hx : (x, accO dx its n) ∈ news) (h : ∀ t k, Q (.int its.size t) { s with toks := k }) :
    wpAny (model prog w) A (call (.ref q) []) Q E s :=
  call_boundB (N _ hq).1 (.inr rfl) (fun A' Q' E' h' => bound_slot (by decide +kernel) (PySem.F.args_list_len_1 _) h') (by decide +kernel) PySem.F.entry_list_len fun A' => len_run (N _ hx).1 rfl h

theorem call_pop_K {Q : Value → Shared → Prop} {v : Value} {cd : ClassData} (F : Fr h₀ L s.heap m) (X₀ : K.In h₀) (N : News h₀ L s.heap news) (hq : (q, boundB "builtin_function_or_method" "list.pop" x) ∈ news) (U : Upd x (accO dx (its.push v) n) (accO dx its (n + 1)) news news')
    (hd : (dx, od) ∈ news) (hc : clsIn K 220 = some cd) (hcq : cd.qualname = Str.ofString "_Accumulator") (hm : subIn K (.ref 220) (.type "module") = some false)
    (ht : typeIn K (.ref 220) = some (.type "type")) (hz : its.size ≤ 1000)
    (h : ∀ h', Fr h₀ L h' m → News h₀ L h' news' → Q v { s with heap := h' }) :
    wpAny (model prog w) A (call (.ref q) []) Q E s := by
  have hx := upd_here U
  have z := N _ hx
  refine call_boundB (N _ hq).1 (.inl rfl) (fun A' Q' E' h' => bound_pop (X₀.keeps F.keep) (InstAt.ofAcc N hx hd) hc hcq hm ht h') (by decide +kernel) PySem.F.entry_list_pop fun A' => pop_run z.1 rfl (v := v) (by simp) (by rw [Array.size_push, sizeLine_eq]; omega) ?_
  have e2 : (its.push v).eraseIdxIfInBounds ((its.push v).size - 1) = its := by
    unfold Array.eraseIdxIfInBounds
    rw [dif_pos (by simp)]
    apply Array.toList_inj.mp
    rw [Array.toList_eraseIdx, Array.toList_push, Array.size_push, Nat.add_sub_cancel, ← Array.length_toList]
    simp [List.eraseIdx_append_of_length_le]
  have e : Obj.mapSeq (fun ys => ys.eraseIdxIfInBounds ((its.push v).size - 1)) (accO dx (its.push v) n) = accO dx its (n + 1) := by
    rw [mapSeq_acc _ (by rw [e2]; simp), e2]
  have hs : Heap.SameBut x s.heap (s.heap.update x (Obj.mapSeq fun ys => ys.eraseIdxIfInBounds ((its.push v).size - 1))) := Heap.SameBut.update ..
  refine h _ (F.change hs z.2.1 z.2.2) (news_after1 N U (fun b o hb e => hs.extBut b o hb e) ?_)
  rw [Heap.get?_update_self _ z.1 (by rw [e]; rfl), e]

theorem evalArgs_none {f : Value} {Q : Args → Shared → Prop} (h : Q ⟨[], []⟩ s) : wpAny M A (evalArgs f true [] []) Q E s := by
  unfold evalArgs
  refine wpAny_bind (wpAny_bind (spliced_nil (wpAny_pure ?_)))
  refine wpAny_bind (wpAny_pure ?_)
  dsimp only
  refine wpAny_holding ?_
  exact wpAny_bind (wpAny_pure (wpAny_bind (wpAny_pure (wpAny_pure h))))
theorem callWith_B {pos : Pos} {gi i : String} {first : List Value} {Q : Value → Shared → Prop} (N : News h₀ L s.heap news) (hq : (q, boundB gi i x) ∈ news) (hT : gi = "builtin_function_or_method" ∨ gi = "method-wrapper")
    (h : wpAny M A (call (.ref q) first) Q E s) : wpAny M A (callWith pos (.ref q) first [] []) Q E s := by
  have ho := (N _ hq).1
  unfold callWith
  refine wpAny_bind (wpAny_holding (evalArgs_none ?_))
  refine wpAny_bind (wpAny_standAt ?_)
  simp only [List.any_nil, Bool.or_false]
  refine wpAny_bind (m := keeperOf (.ref q)) ?_
  unfold keeperOf
  refine wpAny_bind (wpAny_load ho ?_)
  have e1 : (Value.type gi != Value.type "method") = true := by rcases hT with rfl | rfl <;> decide
  have e2 : (Value.type gi == Value.type "builtin_function_or_method" || Value.type gi == Value.type "method-wrapper") = true := by rcases hT with rfl | rfl <;> decide
  simp only [e1, e2, if_true]
  refine wpAny_pure ?_
  rw [List.append_nil]
  exact wpAny_bind (wpAny_mono h (fun r s₂ hr => wpAny_bind (wpAny_holding (wpAny_point (wpAny_pure hr)))) fun _ _ x => x)
end
theorem fresh_of {E : List (Addr × Obj)} {h g h' : Heap} {L' tp : Addr} {o : Obj} {r : List (Addr × Obj)} (k : KB E h g) (N : News g L' h' ((tp, o) :: r)) (hn : ∀ p ∈ E, p.1 ≠ tp) : h.get? tp = none := by
  cases e : h.get? tp with
  | none => rfl
  | some o' =>
    have h1 := k tp o' (fun hm => by obtain ⟨p, hp, rfl⟩ := List.mem_map.mp hm; exact hn p hp rfl) e
    have h2 : g.get? tp = none := (N _ (.head _)).2.2
    rw [h2] at h1; cases h1
theorem ne_fresh {h₀ h : Heap} {L tp : Addr} {news : List (Addr × Obj)} (N : News h₀ L h news) (e : h.get? tp = none) : ∀ p ∈ news, p.1 ≠ tp := fun p hp q => by
  have := (N p hp).1
  rw [q, e] at this; cases this
end Mine
end
section
open PySem PySem.W PyProof.Rows PySem.Calls PySem.Spec
set_option maxRecDepth 100000
namespace Mine
section
variable {prog : Program} {w : World} {A : Around} {E : Value → Shared → Prop} {s : Shared} {x dx l sl : Addr} {o : Obj} {xs its : Array Value} {n : Nat} {K : Frag} {ox : Obj} {od : Option Obj} {h₀ : Heap} {L : Addr} {m : PySem.Str → Option Value} {news news' : List (Addr × Obj)}
theorem seqKeyL {M : Model} {k : Value} {name : PySem.Str} {Q : Value → Shared → Prop} (X : K.In s.heap) (I : InstAt s.heap x ox 220 od) (hdq : subIn K (.ref 220) (.type "collections.deque") = some false) (h : Q k s) : wpAny M A (sequenceKey (.ref x) k name) Q E s := by
  unfold sequenceKey
  refine wpAny_bind (I.type.here ?_)
  dsimp only
  refine wpAny_bind (m := seqItemTypes.anyM fun n => isSubtype (.ref 220) (.type n)) ?_
  show wpAny _ _ (["collections.deque"].anyM fun n => isSubtype (.ref 220) (.type n)) _ _ _
  refine wpAny_bind (m := isSubtype (.ref 220) (.type "collections.deque")) ((looks_subIn X hdq).here ?_)
  refine wpAny_pure ?_
  exact wpAny_pure h

theorem special_slotL {name : PySem.Str} {i nm : String} {b : Builtin} {rest : List Value} {Q : Option Value → Shared → Prop} (X : K.In s.heap) (I : InstAt s.heap x ox 220 od) (hsub : subIn K (.ref 220) (.type "list") = some true)
    (hf : findIn K (.ref 220) name = some (some (.builtin i))) (hbind : ∀ v, bindSpecial (.builtin i) v = pure (.builtin i, [v]))
    (hk : builtinKind i = some .slot ∨ builtinKind i = some .method) (hs : splitId i = some ("list", nm)) (hq : plainId i = true) (hb : entryFor table i = some b) (ha : argsOk i ⟨.ref x :: rest, []⟩)
    (hc : wpAny (model prog w) A.in1 (b ⟨.ref x :: rest, []⟩) (fun fin s' => ∃ v, fin = .done (.ret v) ∧ Q (some v) s') E s) : wpAny (model prog w) A (callSpecial? (.ref x) name rest) Q E s := by
  unfold callSpecial? specialOf
  refine wpAny_bind (wpAny_bind (I.type.here ((looks_findIn X hf).here (wpAny_holding ?_))))
  rw [hbind]
  refine wpAny_bind (wpAny_pure (wpAny_bind ?_))
  have go : wpAny (model prog w) A (call (.builtin i) (.ref x :: rest)) (fun v => Q (some v)) E s := by
    rcases hk with hk | hk
    · exact call_slotL X I hsub hk hs hq hb ha hc
    · exact call_methL X I hsub hk hs hq hb ha hc
  exact wpAny_mono go (fun _ _ z => wpAny_pure z) fun _ _ z => z

theorem getItemL {k v : Value} {Q : Value → Shared → Prop} (X : K.In s.heap) (I : InstAt s.heap x ox 220 od) (hsub : subIn K (.ref 220) (.type "list") = some true) (hdq : subIn K (.ref 220) (.type "collections.deque") = some false)
    (hf : findIn K (.ref 220) "__getitem__" = some (some (.builtin "list.__getitem__")))
    (hc : wpAny (model prog w) A.in1 (Builtin.«list.__getitem__» ⟨[.ref x, k], []⟩) (fun fin s' => ∃ v, fin = .done (.ret v) ∧ Q v s') E s) : wpAny (model prog w) A (getItem (.ref x) k) Q E s := by
  unfold getItem
  refine wpAny_holding (wpAny_bind (seqKeyL X I hdq (wpAny_bind (special_slotL (nm := "__getitem__") X I hsub hf (fun v => slot_list_getitem.bind v) (by first | exact .inl (by decide +kernel) | exact .inr (by decide +kernel)) (by decide +kernel) (by decide +kernel) entry_list_getitem (args_list_getitem _ _) (wpAny_mono hc (fun fin s' h' => ?_) fun _ _ z => z)))))
  obtain ⟨v, rfl, hv⟩ := h'
  exact ⟨v, rfl, wpAny_pure hv⟩

theorem subTailL {value slice : Expr} {i : Value} {ops : List Value} {Q : Value → Shared → Prop} (X : K.In s.heap) (I : InstAt s.heap x ox 220 od)
    (hf : findIn K (.ref 220) "__getitem__" = some (some (.builtin "list.__getitem__"))) (h : wpAny (model prog w) A (getItem (.ref x) i) Q E s)
    (hs : subscripted slice false (.ref x) i = operate ops (getItem (.ref x) i)) (ht : ∀ r, letTemporaryGo value (.ref x) r = pure ()) :
    wpAny (model prog w) A (subscriptTail value slice (.ref x) i) Q E s := by
  unfold subscriptTail getitemInPython specialOf
  refine wpAny_bind (wpAny_bind (wpAny_bind (I.type.here ((looks_findIn X hf).here ?_))))
  have fin : wpAny (model prog w) A (subscripted slice false (.ref x) i) (fun r s₃ => wpAny (model prog w) A (letTemporaryGo value (.ref x) r >>= fun _ => pure r) Q E s₃) E s := by
    rw [hs]
    exact wpAny_operating (wpAny_mono h (fun r s₃ h₃ => wpAny_bind (wpAny_of_eq (ht r) (wpAny_pure h₃))) fun _ _ x => x)
  first
    | exact wpAny_pure (wpAny_bind fin)
    | exact wpAny_bind (wpAny_pure (wpAny_bind fin))

theorem getitem_int_run {M : Model} {k : Int} {t : Tok} {v : Value} {Q : Value → Shared → Prop} (ho : s.heap.get? x = some o) (hd : o.data = .seq its n) (h0 : 0 ≤ k) (hfit : k < 2 ^ 63) (hx : its[k.toNat]? = some v) (h : Q v s) :
    wpAny M A (Builtin.«list.__getitem__» ⟨[.ref x, .int k t], []⟩) (fun fin s' => ∃ v, fin = .done (.ret v) ∧ Q v s') E s := by
  show wpAny _ _ (Builtin.List.listSubscript? (.int k t) >>= _) _ _ s
  refine wpAny_bind (wpAny_listSubscript_int (fitsIndex_of h0 hfit) ?_)
  clear hfit
  obtain ⟨j, rfl⟩ := Int.eq_ofNat_of_zero_le h0
  have hx' : its[j]? = some v := hx
  show wpAny _ _ ((seqItemAt x j >>= fun r => pure (r.map (j, ·))) >>= _) _ _ s
  refine wpAny_bind (wpAny_bind (wpAny_seqItemAt ho hd (wpAny_pure ?_)))
  rw [hx']
  first
    | exact wpAny_bind (wpAny_pure (wpAny_pure ⟨v, rfl, h⟩))
    | exact wpAny_pure ⟨v, rfl, h⟩

theorem getitem_slice_run {M : Model} {vl vu vs : Value} {lo hi st : Option Int} {Q : Value → Shared → Prop} (ho : s.heap.get? x = some o) (hd : o.data = .seq its n)
    (hs : s.heap.IsSliceOf sl vl vu vs) (pl : IsPart vl lo) (pu : IsPart vu hi) (ps : IsPart vs st) (h0 : st ≠ some 0)
    (h : Q (.ref s.heap.objs.size) { s with heap := s.heap.push { cls := .type "list", data := .seq (slicePick its lo hi st) } }) (hsz : its.size ≤ sizeLine) :
    wpAny M A (Builtin.«list.__getitem__» ⟨[.ref x, .ref sl], []⟩) (fun fin s' => ∃ v, fin = .done (.ret v) ∧ Q v s') E s := by
  obtain ⟨os, hos, hcs, hds⟩ := id hs
  have hTs : s.TypeIs (.ref sl) "slice" := ⟨os, hos, hcs⟩
  show wpAny _ _ (Builtin.List.listSubscript? (.ref sl) >>= _) _ _ s
  refine wpAny_bind ?_
  unfold Builtin.List.listSubscript?
  refine wpAny_bind (wpAny_specialOf hTs slice_no_index ?_)
  simp only [Option.isNone_none, if_true]
  refine wpAny_pure ?_
  show wpAny _ _ (typeOf (.ref sl) >>= _) _ _ s
  refine wpAny_bind (wpAny_typeOf hTs ?_)
  rw [if_neg (by decide)]
  rw [listSliceParts_eq]
  have hstep : ¬ ((rawPart st == rawInt 0) = true) := by
    cases st with
    | none => exact Bool.false_ne_true
    | some c =>
      intro hh
      have : c = 0 := by simpa [rawPart, rawInt] using hh
      exact h0 (by rw [this])
  refine wpAny_bind (wpAny_bind (wpAny_field hos hds (x := vs) rfl (wpAny_bind (wpAny_listPart ps ?_))))
  rw [if_neg hstep]
  refine wpAny_bind (wpAny_field hos hds (x := vl) rfl (wpAny_bind (wpAny_listPart pl ?_)))
  refine wpAny_bind (wpAny_field hos hds (x := vu) rfl (wpAny_bind (wpAny_listPart pu (wpAny_pure ?_))))
  refine wpAny_bind (m := Builtin.List.listItems (.ref x)) (listItems_any ho hd ?_)
  refine wpAny_bind (wpAny_of_eq (sliceIndices_raw lo hi st its.size h0) ?_)
  refine wpAny_bind (wpAny_newObj_type (wpAny_pure ⟨_, rfl, h⟩) (Nat.le_trans (slicePick_size_le its lo hi st) hsz))
end
end Mine
end
section
open PySem PySem.W PyProof.Rows PySem.Calls PySem.Spec
set_option maxRecDepth 100000
namespace Mine
theorem mapSeq_acc2 {its : Array Value} {n : Nat} {dx : Addr} (f : Array Value → Array Value) : ∃ n', Obj.mapSeq f (accO dx its n) = accO dx (f its) n' := ⟨_, rfl⟩
section
variable {prog : Program} {w : World} {A : Around} {E : Value → Shared → Prop} {s : Shared} {x dx l sl : Addr} {o : Obj} {xs its new : Array Value} {n : Nat} {K : Frag} {ox : Obj} {od : Obj} {h₀ : Heap} {L : Addr} {m : PySem.Str → Option Value} {news : List (Addr × Obj)}
theorem setitem_slice_run {M : Model} {vl vu : Value} {lo hi : Option Int} {Q : Value → Shared → Prop} (ho : s.heap.get? x = some o) (hd : o.data = .seq its n) (hl : s.heap.IsList l new) (hne : x ≠ l)
    (hs : s.heap.IsSliceOf sl vl vu .none) (pl : IsPart vl lo) (pu : IsPart vu hi) (hsz : its.size ≤ 1000) (hsz2 : new.size ≤ 1000)
    (h : Q .none { s with heap := s.heap.update x (Obj.mapSeq fun ys => ys.extract 0 (kms_lo lo its.size) ++ new ++ ys.extract (max (kms_lo lo its.size) (kms_hi hi its.size)) ys.size) }) :
    wpAny M A (Builtin.«list.__setitem__» ⟨[.ref x, .ref sl, .ref l], []⟩) (fun fin s' => ∃ v, fin = .done (.ret v) ∧ Q v s') E s := by
  obtain ⟨os, hos, hcs, hds⟩ := id hs
  have hTs : s.TypeIs (.ref sl) "slice" := ⟨os, hos, hcs⟩
  show wpAny _ _ (Builtin.List.listSubscript? (.ref sl) >>= _) _ _ s
  refine wpAny_bind ?_
  unfold Builtin.List.listSubscript?
  refine wpAny_bind (wpAny_specialOf hTs slice_no_index ?_)
  simp only [Option.isNone_none, if_true]
  refine wpAny_pure ?_
  show wpAny _ _ (typeOf (.ref sl) >>= _) _ _ s
  refine wpAny_bind (wpAny_typeOf hTs ?_)
  rw [if_neg (by decide)]
  rw [listSliceParts_eq]
  refine wpAny_bind (wpAny_bind (wpAny_field hos hds (x := .none) rfl (wpAny_bind (wpAny_listPart .none ?_))))
  rw [if_neg (by exact Bool.false_ne_true)]
  refine wpAny_bind (wpAny_field hos hds (x := vl) rfl (wpAny_bind (wpAny_listPart pl ?_)))
  refine wpAny_bind (wpAny_field hos hds (x := vu) rfl (wpAny_bind (wpAny_listPart pu (wpAny_pure ?_))))
  dsimp only
  have e1 : Builtin.List.listSameRef (.ref x) (.ref l) = false := by
    show (x == l) = false
    simpa using hne
  rw [e1]
  obtain ⟨ol, hol, hcl, nl, hdl⟩ := hl
  refine KFB.if_not rfl ?_
  refine wpAny_bind (m := Builtin.List.listAllItems (.ref l) _) ?_
  unfold Builtin.List.listAllItems
  refine wpAny_bind (wpAny_typeOf (T := "list") ⟨ol, hol, hcl⟩ ?_)
  refine KFB.if_so (by decide) ?_
  refine listItems_any hol hdl ?_
  refine wpAny_bind (m := Builtin.List.listItems (.ref x)) (listItems_any ho hd ?_)
  refine wpAny_bind (wpAny_of_eq (sliceIndices_raw lo hi none its.size (by simp)) ?_)
  rw [kms_bounds]
  dsimp only
  refine KFB.if_so (by decide) ?_
  refine wpAny_bind (wpAny_rule ?_)
  refine KFB.if_not (by unfold Builtin.List.listTooLong; rw [sizeLine_eq]; simp; omega) ?_
  have e2 : ∀ a b : Nat, (max (a : Int) (b : Int)).toNat = max a b := fun a b => by omega
  refine wpAny_bind (m := Builtin.List.listUpdate (.ref x) _) ?_
  refine wpAny_updateSeq ho hd (wpAny_bind (wpAny_letGo (wpAny_bind (wpAny_pure (wpAny_pure ⟨.none, rfl, ?_⟩))))) (hz := by rw [sizeLine_eq]; omega) (_hz' := ?_)
  · simp only [Int.toNat_natCast, e2, Array.size_append, Array.size_extract]; rw [sizeLine_eq]; omega
  · simpa only [Int.toNat_natCast, e2] using h

theorem args_setitem (a b c : Value) : argsOk "list.__setitem__" ⟨[a, b, c], []⟩ := args_list_setitem a b c
theorem setItemL {k v : Value} {Q : Unit → Shared → Prop} {odd : Option Obj} (X : K.In s.heap) (I : InstAt s.heap x ox 220 odd) (hsub : subIn K (.ref 220) (.type "list") = some true) (hdq : subIn K (.ref 220) (.type "collections.deque") = some false)
    (hf : findIn K (.ref 220) "__setitem__" = some (some (.builtin "list.__setitem__")))
    (hc : wpAny (model prog w) A.in1 (Builtin.«list.__setitem__» ⟨[.ref x, k, v], []⟩) (fun fin s' => ∃ v, fin = .done (.ret v) ∧ Q () s') E s) : wpAny (model prog w) A (setItem (.ref x) k v) Q E s := by
  unfold setItem
  refine wpAny_holding (wpAny_bind (seqKeyL X I hdq (wpAny_bind (special_slotL (nm := "__setitem__") X I hsub hf (fun v => slot_list_setitem.bind v) (by first | exact .inl (by decide +kernel) | exact .inr (by decide +kernel)) (by decide +kernel) (by decide +kernel) entry_list_setitem (args_list_setitem _ _ _) (wpAny_mono hc (fun fin s' h' => ?_) fun _ _ z => z)))))
  obtain ⟨v, rfl, hv⟩ := h'
  exact ⟨v, rfl, wpAny_pure hv⟩

/-- self[i] with a written place -/
theorem index_K {value slice : Expr} {k : Int} {t : Tok} {v : Value} {ops : List Value} {Q : Value → Shared → Prop} (F : Fr h₀ L s.heap m) (X₀ : K.In h₀) (N : News h₀ L s.heap news) (hm : (x, accO dx its n) ∈ news) (hd : (dx, od) ∈ news)
    (hsub : subIn K (.ref 220) (.type "list") = some true) (hdq : subIn K (.ref 220) (.type "collections.deque") = some false) (hf : findIn K (.ref 220) "__getitem__" = some (some (.builtin "list.__getitem__")))
    (h0 : 0 ≤ k) (hfit : k < 2 ^ 63) (hx : its[k.toNat]? = some v) (h : Q v s)
    (hs : subscripted slice false (.ref x) (.int k t) = operate ops (getItem (.ref x) (.int k t))) (ht : ∀ r, letTemporaryGo value (.ref x) r = pure ()) :
    wpAny (model prog w) A (subscriptTail value slice (.ref x) (.int k t)) Q E s :=
  subTailL (X₀.keeps F.keep) (InstAt.ofAcc N hm hd) hf (getItemL (v := v) (X₀.keeps F.keep) (InstAt.ofAcc N hm hd) hsub hdq hf (getitem_int_run (N _ hm).1 rfl h0 hfit hx h)) hs ht

/-- self[i:], self[:] -/
theorem slice_K {value slice : Expr} {vl vu : Value} {lo hi : Option Int} {zs : Array Value} {ops : List Value} {Q : Value → Shared → Prop} (F : Fr h₀ L s.heap m) (X₀ : K.In h₀) (N : News h₀ L s.heap news) (hm : (x, accO dx its n) ∈ news) (hd : (dx, od) ∈ news)
    (hsub : subIn K (.ref 220) (.type "list") = some true) (hdq : subIn K (.ref 220) (.type "collections.deque") = some false) (hf : findIn K (.ref 220) "__getitem__" = some (some (.builtin "list.__getitem__")))
    (pl : IsPart vl lo) (pu : IsPart vu hi) (hz : its.size ≤ 1000) (e : slicePick its lo hi none = zs)
    (h : ∀ D h', Fr h₀ L h' m → News h₀ L h' ((D, W.listOf zs 0) :: news) → (∀ p ∈ news, p.1 < D) → Q (.ref D) { s with heap := h' })
    (hs : subscripted slice false (.ref x) (.ref s.heap.objs.size) = operate ops (getItem (.ref x) (.ref s.heap.objs.size))) (ht : ∀ r, letTemporaryGo value (.ref x) r = pure ()) :
    wpAny (model prog w) A (subscriptTail value slice (.ref x) (.ref s.heap.objs.size)) Q E { s with heap := s.heap.push { cls := .type "slice", data := .fields #[vl, vu, .none] } } := by
  have N0 : News h₀ L (s.heap.push { cls := .type "slice", data := .fields #[vl, vu, .none] }) news := N.grown fun _ _ e => Heap.get?_push_of_some _ e
  have F0 := F.push { cls := .type "slice", data := .fields #[vl, vu, .none] }
  refine subTailL (s := { s with heap := s.heap.push _ }) (X₀.keeps F0.keep) (InstAt.ofAcc N0 hm hd) hf (getItemL (v := .none) (X₀.keeps F0.keep) (InstAt.ofAcc N0 hm hd) hsub hdq hf (getitem_slice_run (s := { s with heap := s.heap.push _ }) (N0 _ hm).1 rfl (Heap.IsSliceOf.new ..) pl pu .none (by simp) ?_ (by rw [sizeLine_eq]; omega))) hs ht
  have N1 := News.push F0 N0 { cls := .type "list", data := .seq zs }
  rw [e]
  refine h _ _ (F0.push _) N1 fun p hp => Heap.lt_size (N0 p hp).1

/-- self[i:] = l, self[:] = l -/
theorem setitem_K {vl vu : Value} {lo hi : Option Int} {its' : Array Value} {news' : Nat → List (Addr × Obj)} {Q : Unit → Shared → Prop} (F : Fr h₀ L s.heap m) (X₀ : K.In h₀) (N : News h₀ L s.heap news) (hl : s.heap.IsList l new)
    (U : ∀ n', Upd x (accO dx its n) (accO dx its' n') news (news' n')) (hd : (dx, od) ∈ news) (hsub : subIn K (.ref 220) (.type "list") = some true)
    (hdq : subIn K (.ref 220) (.type "collections.deque") = some false) (hf : findIn K (.ref 220) "__setitem__" = some (some (.builtin "list.__setitem__")))
    (pl : IsPart vl lo) (pu : IsPart vu hi) (hz : its.size ≤ 1000) (hz2 : new.size ≤ 1000) (e : its.extract 0 (kms_lo lo its.size) ++ new ++ its.extract (max (kms_lo lo its.size) (kms_hi hi its.size)) its.size = its')
    (h : ∀ n' h', Fr h₀ L h' m → News h₀ L h' (news' n') → Q () { s with heap := h' }) :
    wpAny (model prog w) A (setItem (.ref x) (.ref s.heap.objs.size) (.ref l)) Q E { s with heap := s.heap.push { cls := .type "slice", data := .fields #[vl, vu, .none] } } := by
  have hm := upd_here (U 0)
  have N0 : News h₀ L (s.heap.push { cls := .type "slice", data := .fields #[vl, vu, .none] }) news := N.grown fun _ _ e => Heap.get?_push_of_some _ e
  have F0 := F.push { cls := .type "slice", data := .fields #[vl, vu, .none] }
  have hne : x ≠ l := fun q => by
    obtain ⟨o, ho, hc, _⟩ := hl
    rw [← q, (N _ hm).1] at ho
    cases ho; cases hc
  have z := N0 _ hm
  refine setItemL (s := { s with heap := s.heap.push _ }) (X₀.keeps F0.keep) (InstAt.ofAcc N0 hm hd) hsub hdq hf (setitem_slice_run (s := { s with heap := s.heap.push _ }) (N0 _ hm).1 rfl (hl.push _) hne (Heap.IsSliceOf.new ..) pl pu hz hz2 ?_)
  obtain ⟨n', en⟩ := mapSeq_acc2 (its := its) (n := n) (dx := dx) fun ys => ys.extract 0 (kms_lo lo its.size) ++ new ++ ys.extract (max (kms_lo lo its.size) (kms_hi hi its.size)) ys.size
  rw [e] at en
  have hs : Heap.SameBut x (s.heap.push { cls := .type "slice", data := .fields #[vl, vu, .none] }) ((s.heap.push { cls := .type "slice", data := .fields #[vl, vu, .none] }).update x (Obj.mapSeq fun ys => ys.extract 0 (kms_lo lo its.size) ++ new ++ ys.extract (max (kms_lo lo its.size) (kms_hi hi its.size)) ys.size)) := Heap.SameBut.update ..
  refine h n' _ (F0.change hs z.2.1 z.2.2) (news_after1 N0 (U n') (fun b o hb e => hs.extBut b o hb e) ?_)
  rw [Heap.get?_update_self _ z.1 (by rw [en]; rfl), en]
end

inductive Upds : List (Addr × Obj) → List (Addr × Obj) → List (Addr × Obj) → List (Addr × Obj) → Prop
  | nil {l} : Upds [] [] l l
  | cons {d o o' C C' l l1 l2} : Upd d o o' l l1 → Upds C C' l1 l2 → Upds ((d, o) :: C) ((d, o') :: C') l l2
theorem upds_mem : ∀ {C C' l l' : List (Addr × Obj)}, Upds C C' l l' → ∀ p ∈ l', p ∈ C' ∨ (p ∈ l ∧ p.1 ∉ C.map (·.1))
  | _, _, _, _, .nil, p, hp => .inr ⟨hp, by simp⟩
  | _, _, _, _, .cons U r, p, hp => by
    rcases upds_mem r p hp with h | ⟨h, hn⟩
    · exact .inl (.tail _ h)
    · rcases upd_mem U p h with rfl | ⟨h2, hn2⟩
      · exact .inl (.head _)
      · refine .inr ⟨h2, ?_⟩
        simp only [List.map_cons, List.mem_cons, not_or]
        exact ⟨hn2, hn⟩
theorem news_upds {h₀ h h' : Heap} {L : Addr} {news news' E E' C C' : List (Addr × Obj)} (N : News h₀ L h news) (NE : News h₀ L h E) (U : Upds C C' news news') (k : KB E h h') (N' : News h₀ L h' E') (hC : ∀ p ∈ C', p ∈ E') (hE : ∀ p ∈ E, p.1 ∉ C.map (·.1) → p ∈ E') : News h₀ L h' news' := fun p hp => by
  rcases upds_mem U p hp with h1 | ⟨h1, h2⟩
  · exact N' _ (hC p h1)
  · by_cases h3 : p.1 ∈ E.map (·.1)
    · obtain ⟨q, hq, e⟩ := List.mem_map.mp h3
      have e1 := (NE q hq).1
      have e2 := (N p h1).1
      rw [e, e2] at e1
      have e3 : q = p := Prod.ext e (Option.some.inj e1).symm
      subst e3
      exact N' _ (hE _ hq h2)
    · exact ⟨k _ _ h3 (N p h1).1, (N p h1).2⟩
theorem news_same {h₀ h h' : Heap} {L : Addr} {news E : List (Addr × Obj)} (N : News h₀ L h news) (NE : News h₀ L h E) (k : KB E h h') (N' : News h₀ L h' E) : News h₀ L h' news := news_upds N NE .nil k N' (fun _ h => nomatch h) fun p hp _ => hp
theorem ne_obj {h₀ h : Heap} {L a b : Addr} {o o' : Obj} {news : List (Addr × Obj)} (N : News h₀ L h news) (h1 : (a, o) ∈ news) (h2 : (b, o') ∈ news) (hc : o.cls ≠ o'.cls) : @Ne Nat a b := fun q => by
  have e1 := (N _ h1).1
  have e2 := (N _ h2).1
  have q' : a = b := q
  subst q'
  rw [e1] at e2
  have e3 : o = o' := Option.some.inj e2
  exact hc (by rw [e3])
theorem News.two {h₀ h : Heap} {L : Addr} {p q : Addr × Obj} {news : List (Addr × Obj)} (N : News h₀ L h news) (h1 : p ∈ news) (h2 : q ∈ news) : News h₀ L h [p, q] := fun r hr => by
  simp only [List.mem_cons, List.not_mem_nil, or_false] at hr
  rcases hr with rfl | rfl
  · exact N _ h1
  · exact N _ h2
theorem News.three {h₀ h : Heap} {L : Addr} {p q r : Addr × Obj} {news : List (Addr × Obj)} (N : News h₀ L h news) (h1 : p ∈ news) (h2 : q ∈ news) (h3 : r ∈ news) : News h₀ L h [p, q, r] := fun z hz => by
  rcases List.mem_cons.mp hz with rfl | hz
  · exact N _ h1
  · exact News.two N h2 h3 z hz
theorem pick_from {its : Array Value} {i : Nat} (hi : i ≤ its.size) : slicePick its (some (i : Int)) none none = its.extract i its.size := by
  rw [kms_pick_eq]
  unfold kms_pick kms_lo kms_hi
  dsimp only
  rw [if_neg (by omega)]
  apply Array.toList_inj.mp
  simp only [Int.toNat_natCast, Array.length_toList, Nat.min_eq_left hi, Array.toList_extract, List.extract_eq_drop_take]
theorem set_from {its : Array Value} {i : Nat} (hi : i ≤ its.size) : its.extract 0 (kms_lo (some (i : Int)) its.size) ++ #[] ++ its.extract (max (kms_lo (some (i : Int)) its.size) (kms_hi none its.size)) its.size = its.extract 0 i := by
  unfold kms_lo kms_hi
  dsimp only
  rw [if_neg (by omega)]
  simp [Nat.min_eq_left hi, Nat.max_eq_right hi]
theorem set_all {its new : Array Value} : its.extract 0 (kms_lo none its.size) ++ new ++ its.extract (max (kms_lo none its.size) (kms_hi none its.size)) its.size = new := by
  unfold kms_lo kms_hi
  simp
theorem fresh_in {E : List (Addr × Obj)} {h g h' : Heap} {L' tp : Addr} {o : Obj} {r : List (Addr × Obj)} (k : KB E h g) (N : News g L' h' r) (hm : (tp, o) ∈ r) (hn : ∀ p ∈ E, p.1 ≠ tp) : h.get? tp = none := by
  cases e : h.get? tp with
  | none => rfl
  | some o' =>
    have h1 := k tp o' (fun hm => by obtain ⟨p, hp, rfl⟩ := List.mem_map.mp hm; exact hn p hp rfl) e
    have h2 : g.get? tp = none := (N _ hm).2.2
    rw [h2] at h1; cases h1
theorem News.one {h₀ h : Heap} {L : Addr} {p : Addr × Obj} {news r : List (Addr × Obj)} (N : News h₀ L h news) (h1 : p ∈ news) (R : ∀ (_ : News h₀ L h news), News h₀ L h r) : News h₀ L h (p :: r) := fun q hq => by
  rcases List.mem_cons.mp hq with rfl | hq
  · exact N _ h1
  · exact R N q hq
theorem len_back {Q : Value → Shared → Prop} {n : Int} {t : Tok} {s' : Shared} (hb : 0 ≤ n ∧ n < 2 ^ 63) (h : Q (.int n s'.toks) { s' with toks := s'.toks + 1 }) : W.LenBack Q (.int n t) s' := ⟨hb, h⟩
theorem truthy_lenL {prog : Program} {w : World} {A : Around} {E : Value → Shared → Prop} {s : Shared} {K : Frag} {x f : Addr} {ox : Obj} {od : Option Obj} {Q : Bool → Shared → Prop} (X : K.In s.heap) (I : InstAt s.heap x ox 220 od)
    (hb : findIn K (.ref 220) "__bool__" = some none) (hl : findIn K (.ref 220) "__len__" = some (some (.ref f))) (hf : isFn K (.ref f) = true)
    (h : wpAny (model prog w) A.in1 (call (.ref f) [.ref x]) (W.LenBack fun v s' => ∃ n t, v = .int n t ∧ Q (n != 0) s') E s) : wpAny (model prog w) A (truthy (.ref x)) Q E s := by
  unfold truthy
  refine wpAny_bind (m := callSpecial? (.ref x) (Str.ofString "__bool__")) (wpAny_bind (wpAny_bind (I.type.here ((looks_findIn X hb).here (wpAny_pure ?_)))))
  refine wpAny_bind (wpAny_bind (I.type.here ((looks_findIn X hl).here ?_)))
  refine KFB.if_not rfl ?_
  refine wpAny_bind (wpAny_runValue (codeAny_builtin PySem.entry_len ?_))
  unfold Builtin.«len»
  refine wpAny_bind (m := oneArg "len" _) (wpAny_pure ?_)
  refine wpAny_bind (m := callSpecial? (.ref x) (Str.ofString "__len__")) (special_fn X I hl (beq_iff_eq.mp hf) (wpAny_mono h (fun r s' hr => ?_) fun _ _ y => y))
  cases r <;> first | exact hr.elim | skip
  rename_i n u
  obtain ⟨⟨h0, h1⟩, hq⟩ := hr
  refine wpAny_bind (wpAny_holding (wpAny_pure ?_))
  refine wpAny_bind (wpAny_letGo ?_)
  show wpAny _ _ (if n < 0 then _ else _) _ _ _
  rw [if_neg (by omega)]
  show wpAny _ _ (if n ≥ 2 ^ 63 then _ else _) _ _ _
  rw [if_neg (by omega)]
  obtain ⟨n', t', e, hq⟩ := hq
  cases e
  exact wpAny_bind (wpAny_mkInt (wpAny_pure (wpAny_pure hq)))
end Mine
end
section
open PySem PySem.W PyProof.Rows PySem.Calls PySem.Spec
set_option maxRecDepth 100000
namespace Mine
local macro_rules | `(tactic| k_mem) => `(tactic| assumption)
local macro_rules | `(tactic| k_inst) => `(tactic| (refine' Mine.InstAt.ofAcc ?N ?h1 ?h2; (case N => k_asm); (case h1 => k_mem); (case h2 => k_mem)))
local macro_rules | `(tactic| walk_at $s:str) => `(tactic| k_extra $s)
theorem words_C1 : True := by
  k_with_none
  w_top off
  k_with "myenter" => (first | ((refine' Mine.enterR (by k_asm) (by k_asm) (by k_asm) (by k_asm) (by k_asm) (by exact rfl) (by exact rfl) (by assumption) (by k_is) (by k_is) (by ktr_room) (by first | exact BindsTo.of_eq rfl | exact binds_K (by k_in) rfl (by k_is) rfl rfl rfl) (by exact locs rfl) ?_ (by exact rfl) (by exact rfl) (by exact rfl) (by decide); k_whole; intro g' L' h' hG' FG' F' N' B' X' T' l1; (try k_lt l1); (try dsimp only); (try k_lift B'); (try k_fold))) | fail "no")
  k_with "mylen" => (first | (first | omega | (simp only [PySem.Str.length_append, PySem.sizeLine_eq] at *; omega)) | fail "no")
  k_with "getMethod ref" => (first | ((k_here; k_dflt (first | refine' Mine.method_fnL (by k_in) (by k_inst) (by k_is) (by k_is) (by k_is) (by k_is) (by exact Mine.shadow_dict (by k_get)) ?_; k_whole | refine' Mine.method_biL (by k_in) (by k_inst) (by k_is) (by k_is) (by k_is) (by exact PySem.F.type_list_append) (by exact Mine.shadow_dict (by k_get)) ?_; k_whole))) | fail "no")
  k_with "call builtin:list.append" => (first | ((k_here; (with_reducible show wpAny _ _ (call (Value.builtin _) [Value.ref _, _]) _ _ _); k_dflt (refine' Mine.append_accL (by k_asm) (by k_asm) (by k_asm) (by k_upd) (by k_mem) (by k_is) ?_ (by walk_at "mylen"); k_whole); intro h' F' N'; (try k_sweep))) | fail "no")
  k_with "getAttr ref" => (first | ((k_here; k_dflt (refine' Mine.get_ownL' (by k_asm) (by k_asm) (by k_inst) (by k_is) (by k_is) (by k_is) (by k_is) (by k_is) (by k_is) (by k_get) (by k_handed) ?_; k_whole))) | fail "no")
  k_with "mytups" => (first | (first | assumption | exact Mine.TupsAt.keeps (by assumption) (fun b o e _ => Fr.keep (by k_asm) b o e)) | fail "no")
  k_with "eval GeneratorExp" => (first | ((k_here; k_dflt (first | ((with_reducible show wpAny _ _ (eval (Expr.GeneratorExp (Expr.BinOp _ _ _ _) _ _ _) _) _ _ _); refine' Mine.gen_len_K (by k_asm) (by k_asm) (by k_asm) (by k_asm) (by exact rfl) (by exact rfl) (by exact rfl) (by exact rfl) (by exact rfl) (by ktr_room) (by k_mem) (by k_mem) (by (intro ps'; k_upd)) (by assumption) (by walk_at "mytups") (by assumption) ?_) | ((with_reducible show wpAny _ _ (eval (Expr.GeneratorExp (Expr.Call _ _ _ _) _ _ _) _) _ _ _); refine' Mine.gen_join_K (by exact rfl) (by k_asm) (by k_asm) (by k_asm) (by k_asm) (by exact rfl) (by exact rfl) (by exact rfl) (by exact rfl) (by exact rfl) (by ktr_room) (by k_mem) (by k_mem) (by (intro ps'; k_upd)) (by assumption) (by walk_at "mytups") (by assumption) ?_)); intro a' ps' h' gs' tk' lo' F' N' hps' hAB' hlo' hlo2' G'; (try dsimp only at N'))) | fail "no")
  k_with "call builtin:sum" => (first | ((k_here; k_dflt (refine' Mine.sum_len_K (by k_asm) (by k_asm) (by refine Mine.Gen.toks (by assumption) ?_; first | exact Nat.le_succ _ | exact Nat.le_refl _) (by exact (Mine.TupsAt.size (by assumption)).symm) (by assumption) (by assumption) ?_); intro h' gs' tk' t' F' N' hAB' hK')) | fail "no")
  k_with "call builtin:str.join" => (first | ((k_here; (with_reducible show wpAny _ _ (call (Value.builtin _) [Value.str _ _, Value.ref _]) _ _ _); k_dflt (refine' Mine.join_str_K (by k_asm) (by k_asm) (by refine Mine.Gen.toks (by assumption) ?_; first | exact Nat.le_succ _ | exact Nat.le_refl _) (by exact (Mine.TupsAt.size (by assumption)).symm) (by assumption) (by assumption) (by assumption) (by assumption) ?_); intro h' gs' tk' t' F' N' hAB' hK')) | fail "no")
  k_with "ksenter" => (first | ((refine' Mine.ks_codeR (by k_asm) (by k_asm) (by k_asm) (by k_asm) (by k_asm) (by exact rfl) (by exact rfl) (by assumption) (by k_is) (by k_is) (by ktr_room) (by first | exact BindsTo.of_eq rfl | exact binds_K (by k_in) rfl (by k_is) rfl rfl rfl) (by exact locs rfl) ?_ (by decide) (by exact rfl) (by exact rfl) (by exact rfl); intro g' L' h' hG' FG' F' N' B' X' T' l1; (try k_lt l1); (try dsimp only); (try k_lift B'); (try k_fold))) | fail "no")
  k_with "getMethod ref" => (first | ((k_here; k_dflt (refine' Mine.meth_len_K (by k_asm) (by k_asm) (by k_asm) (by k_mem) (by k_inst) (by k_is) (by k_is) (by ks_is) (by decide) (by first | exact Mine.ty_len | exact Mine.ty_pop | exact Mine.ty_init) (by first | exact Or.inl ⟨rfl, rfl⟩ | exact Or.inr ⟨rfl, rfl⟩) (by first | exact Mine.nc_len | exact Mine.nc_pop | exact Mine.nc_init) (by decide +kernel) ?_; intro q' h' F' N' l1; (try k_lt l1)))) | fail "no")
  k_with "callWith ref" => (first | ((k_here; k_dflt (refine' Mine.callWith_B (by k_asm) (by k_mem) (by first | exact Or.inl rfl | exact Or.inr rfl) ?_))) | fail "no")
  k_with "call ref" => (first | ((k_here; k_dflt (first | (refine' Mine.call_len_K (by k_asm) (by k_mem) (by k_mem) ?_; intro t' tk') | (refine' Mine.call_pop_K (by k_asm) (by k_asm) (by k_asm) (by k_mem) (by k_upd) (by k_mem) (by exact rfl) (by rfl) (by k_is) (by k_is) (by walk_at "mylen") ?_; intro h' F' N')))) | fail "no")
  k_with "newsx" => (first | (first | (intro _; exact News.nil) | (intro nx; refine' Mine.News.one nx (by k_mem) (by walk_at "newsx"))) | fail "no")
  k_with "news" => (first | (first | assumption | (refine' Mine.News.one (by assumption) (by k_mem) (by walk_at "newsx")) | (refine News.perm (by assumption) ?_; simp; done) | (refine News.perm (by assumption) ?_; intro p hp; simp only [List.mem_cons, List.not_mem_nil, or_false] at hp ⊢; rcases hp with rfl | hp <;> simp_all)) | fail "no")
  k_with "kb" => (first | (exact Mine.KB.fin (by assumption) (by assumption)) | fail "no")
  trivial
set_option maxHeartbeats 1000000 in
theorem push_code (w : World) {p : Program} {loose : List PySem.Str} {mean : ExcName → Option Value} {mg mb : PySem.Str → Option Value} (dp un : Nat) (gd : Option (List Code)) (cn : PySem.Str) (cs : Scope) (a : Addr) (ccd : Value) (cl : List (PySem.Str × Addr)) (outer : List Env) (A₀ : Around) (base h₀ : Heap) (L : Addr) (m : PySem.Str → Option Value) (s : Shared) (Q E : Value → Shared → Prop) (x dx : Addr) (its : Array Value) (n n1 : Nat) (e1 : Int) (k1 t0 tf tv : Tok) (f v : PySem.Str)
    (B : Below A₀ base outer h₀) (F : Fr h₀ L s.heap m) (X : (Mine.hd.heap_1 w.params).In h₀) (T : Top p loose mean mg mb h₀) (hk : cs.kind = .function) (hd : dp + 1 < recursionLimit) (hu : un + 8 < cLine)
    (N : News h₀ L s.heap [(x, accO dx its n), (dx, dictOf [⟨e1, .str (Str.ofString "_initial_size") k1, .int 0 t0⟩] n1)])
    (hne : @Ne Nat x dx) (hsz : its.size ≤ 1000)
    (hret : ∀ tp h' tk', Fr h₀ L h' m → News h₀ L h' [(tp, { cls := .type "tuple", data := .seq #[.str f tf, .str v tv] }), (x, accO dx (its.push (.ref tp)) (n + 1)), (dx, dictOf [⟨e1, .str (Str.ofString "_initial_size") k1, .int 0 t0⟩] n1)] →
      KB [(x, accO dx its n), (dx, dictOf [⟨e1, .str (Str.ofString "_initial_size") k1, .int 0 t0⟩] n1)] s.heap h' → s.heap.get? tp = none → Q .none { s with heap := h', toks := tk' }) :
    codeAny (model PySem.Challenge.rw_wn0105_01.row.prog w) (ktrTop dp un gd cn cs L a ccd cl outer) (.call (.ref 164) ⟨[.ref x, .str f tf, .str v tv], []⟩) (fun r s' => match r with | .ok (.ret v) => Q v s' | .ok _ => False | .error e => E e s') s := by
  revert X; k_fill; intro X
  k_dflt walk_at "myenter"
  k_steps
  exact hret _ _ _ (by k_asm) (by walk_at "news") (by walk_at "kb") (Mine.fresh_of (by assumption) (by assumption) (by k_all))
theorem push_ok (w : World) {p : Program} {loose : List PySem.Str} {mean : ExcName → Option Value} {mg mb : PySem.Str → Option Value} (dp un : Nat) (gd : Option (List Code)) (cn : PySem.Str) (cs : Scope) (a : Addr) (ccd : Value) (cl : List (PySem.Str × Addr)) (outer : List Env) (A₀ : Around) (base h₀ : Heap) (L : Addr) (m : PySem.Str → Option Value) (s : Shared) (Q E : Value → Shared → Prop) (x dx : Addr) (its : Array Value) (n n1 : Nat) (e1 : Int) (k1 t0 tf tv : Tok) (f v : PySem.Str)
    (B : Below A₀ base outer h₀) (F : Fr h₀ L s.heap m) (X : (Mine.hd.heap_1 w.params).In h₀) (T : Top p loose mean mg mb h₀) (hk : cs.kind = .function) (hd : dp + 1 < recursionLimit) (hu : un + 8 < cLine)
    (N : News h₀ L s.heap [(x, accO dx its n), (dx, dictOf [⟨e1, .str (Str.ofString "_initial_size") k1, .int 0 t0⟩] n1)])
    (hne : @Ne Nat x dx) (hsz : its.size ≤ 1000)
    (hret : ∀ tp h' tk', Fr h₀ L h' m → News h₀ L h' [(tp, { cls := .type "tuple", data := .seq #[.str f tf, .str v tv] }), (x, accO dx (its.push (.ref tp)) (n + 1)), (dx, dictOf [⟨e1, .str (Str.ofString "_initial_size") k1, .int 0 t0⟩] n1)] →
      KB [(x, accO dx its n), (dx, dictOf [⟨e1, .str (Str.ofString "_initial_size") k1, .int 0 t0⟩] n1)] s.heap h' → s.heap.get? tp = none → Q .none { s with heap := h', toks := tk' }) :
    wpAny (model PySem.Challenge.rw_wn0105_01.row.prog w) (ktrTop dp un gd cn cs L a ccd cl outer) (call (.ref 164) [.ref x, .str f tf, .str v tv]) Q E s :=
  wpAny_call (push_code w dp un gd cn cs a ccd cl outer A₀ base h₀ L m s Q E x dx its n n1 e1 k1 t0 tf tv f v B F X T hk hd hu N hne hsz hret)
set_option maxHeartbeats 1000000 in
theorem len_ok (w : World) {p : Program} {loose : List PySem.Str} {mean : ExcName → Option Value} {mg mb : PySem.Str → Option Value} (dp un : Nat) (gd : Option (List Code)) (cn : PySem.Str) (cs : Scope) (a : Addr) (ccd : Value) (cl : List (PySem.Str × Addr)) (outer : List Env) (A₀ : Around) (base h₀ : Heap) (L : Addr) (m : PySem.Str → Option Value) (s : Shared) (Q E : Value → Shared → Prop) (x dx : Addr) (its : Array Value) (n n1 : Nat) (e1 : Int) (k1 t0 : Tok) (ps : Array Value) (ws : List PySem.Str)
    (B : Below A₀ base outer h₀) (F : Fr h₀ L s.heap m) (X : (Mine.hd.heap_1 w.params).In h₀) (T : Top p loose mean mg mb h₀) (hk : cs.kind = .function) (hd : dp + 3 < recursionLimit) (hu : un + 8 < cLine)
    (N : News h₀ L s.heap [(x, accO dx its n), (dx, dictOf [⟨e1, .str (Str.ofString "_initial_size") k1, .int 0 t0⟩] n1), (182, tabObj ps)])
    (hne : @Ne Nat x dx ∧ @Ne Nat x 182 ∧ @Ne Nat dx 182) (hps : psOk pos132 ps) (hT : TupsAt s.heap its ws) (hl : ∀ v ∈ ws, v.length ≤ 1000)
    (hret : ∀ ps' h' gs tk' t', Fr h₀ L h' m → News h₀ L h' [(x, accO dx its n), (dx, dictOf [⟨e1, .str (Str.ofString "_initial_size") k1, .int 0 t0⟩] n1), (182, tabObj ps')] → psOk pos132 ps' → (AllBare s.gens → AllBare gs) →
      KB [(x, accO dx its n), (dx, dictOf [⟨e1, .str (Str.ofString "_initial_size") k1, .int 0 t0⟩] n1), (182, tabObj ps)] s.heap h' → Q (.int (lenW ws) t') { s with heap := h', gens := gs, toks := tk' })
    : wpAny (model PySem.Challenge.rw_wn0105_01.row.prog w) (ktrTop dp un gd cn cs L a ccd cl outer) (call (.ref 187) [.ref x]) Q E s := by
  obtain ⟨hne1, hne2, hne3⟩ := hne
  revert X; k_fill; intro X
  refine wpAny_call ?_
  k_dflt walk_at "myenter"
  (have hTg := TupsAt.kb hT N (by assumption) (by simp))
  k_steps
  refine hret _ _ _ _ _ (by k_asm) (by k_asm) (by assumption) ?_ ?_
  · intro hx; solve_by_elim
  · exact KB.fin (by assumption) (by assumption)
set_option maxHeartbeats 1000000 in
theorem str_ok (w : World) {p : Program} {loose : List PySem.Str} {mean : ExcName → Option Value} {mg mb : PySem.Str → Option Value} (dp un : Nat) (gd : Option (List Code)) (cn : PySem.Str) (cs : Scope) (a : Addr) (ccd : Value) (cl : List (PySem.Str × Addr)) (outer : List Env) (A₀ : Around) (base h₀ : Heap) (L : Addr) (m : PySem.Str → Option Value) (s : Shared) (Q E : Value → Shared → Prop) (x dx : Addr) (its : Array Value) (n n1 : Nat) (e1 : Int) (k1 t0 : Tok) (ps : Array Value) (ws : List PySem.Str)
    (B : Below A₀ base outer h₀) (F : Fr h₀ L s.heap m) (X : (Mine.hd.heap_1 w.params).In h₀) (T : Top p loose mean mg mb h₀) (hk : cs.kind = .function) (hd : dp + 3 < recursionLimit) (hu : un + 8 < cLine)
    (N : News h₀ L s.heap [(x, accO dx its n), (dx, dictOf [⟨e1, .str (Str.ofString "_initial_size") k1, .int 0 t0⟩] n1), (189, tabObj ps)])
    (hne : @Ne Nat x dx ∧ @Ne Nat x 189 ∧ @Ne Nat dx 189) (hps : psOk pos135 ps) (hT : TupsAt s.heap its ws) (hl : ∀ v ∈ ws, v.length ≤ 1000) (hsz : its.size ≤ 1000)
    (hret : ∀ ps' h' gs tk' t', Fr h₀ L h' m → News h₀ L h' [(x, accO dx its n), (dx, dictOf [⟨e1, .str (Str.ofString "_initial_size") k1, .int 0 t0⟩] n1), (189, tabObj ps')] → psOk pos135 ps' → (AllBare s.gens → AllBare gs) →
      KB [(x, accO dx its n), (dx, dictOf [⟨e1, .str (Str.ofString "_initial_size") k1, .int 0 t0⟩] n1), (189, tabObj ps)] s.heap h' → Q (.str (txt ws) t') { s with heap := h', gens := gs, toks := tk' })
    : wpAny (model PySem.Challenge.rw_wn0105_01.row.prog w) (ktrTop dp un gd cn cs L a ccd cl outer) (call (.ref 194) [.ref x]) Q E s := by
  obtain ⟨hne1, hne2, hne3⟩ := hne
  revert X; k_fill; intro X
  refine wpAny_call ?_
  k_dflt walk_at "myenter"
  (have hTg := TupsAt.kb hT N (by assumption) (by simp))
  k_steps
  refine hret _ _ _ _ _ (by k_asm) (by k_asm) (by assumption) ?_ ?_
  · intro hx; solve_by_elim
  · exact KB.fin (by assumption) (by assumption)
set_option maxHeartbeats 1000000 in
theorem part_count_ok (w : World) {p : Program} {loose : List PySem.Str} {mean : ExcName → Option Value} {mg mb : PySem.Str → Option Value} (dp un : Nat) (gd : Option (List Code)) (cn : PySem.Str) (cs : Scope) (a : Addr) (ccd : Value) (cl : List (PySem.Str × Addr)) (outer : List Env) (A₀ : Around) (base h₀ : Heap) (L : Addr) (m : PySem.Str → Option Value) (s : Shared) (Q E : Value → Shared → Prop) (x dx : Addr) (its : Array Value) (n n1 : Nat) (e1 : Int) (k1 t0 : Tok)
    (B : Below A₀ base outer h₀) (F : Fr h₀ L s.heap m) (X : (Mine.hd.heap_1 w.params).In h₀) (T : Top p loose mean mg mb h₀) (hk : cs.kind = .function) (hd : dp + 3 < recursionLimit) (hu : un + 8 < cLine)
    (N : News h₀ L s.heap [(x, accO dx its n), (dx, dictOf [⟨e1, .str (Str.ofString "_initial_size") k1, .int 0 t0⟩] n1)])
    (hne : @Ne Nat x dx)
    (hret : ∀ h' tk' t', Fr h₀ L h' m → News h₀ L h' [(x, accO dx its n), (dx, dictOf [⟨e1, .str (Str.ofString "_initial_size") k1, .int 0 t0⟩] n1)] →
      KB [(x, accO dx its n), (dx, dictOf [⟨e1, .str (Str.ofString "_initial_size") k1, .int 0 t0⟩] n1)] s.heap h' → Q (.int its.size t') { s with heap := h', toks := tk' })
    : wpAny (model PySem.Challenge.rw_wn0105_01.row.prog w) (ktrTop dp un gd cn cs L a ccd cl outer) (call (.ref 217) [.ref x]) Q E s := by
  revert X; k_fill; intro X
  refine wpAny_call ?_
  k_dflt walk_at "ksenter"
  k_steps
  exact hret _ _ _ (by k_asm) (by walk_at "news") (by walk_at "kb")
end Mine
end
section
open PySem PySem.W PyProof.Rows PySem.Calls PySem.Spec
set_option maxRecDepth 100000
namespace Mine
def Tk (h h' : Heap) : Prop := ∀ b o, h.get? b = some o → o.cls = .type "tuple" → h'.get? b = some o
theorem Tk.of {h₀ h h' : Heap} {L : Addr} {E : List (Addr × Obj)} (N : News h₀ L h E) (k : KB E h h') (hE : ∀ p ∈ E, p.2.cls ≠ .type "tuple") : Tk h h' := fun b o e hc => k b o (fun hb => by
    obtain ⟨q, hq, rfl⟩ := List.mem_map.mp hb
    have := (N q hq).1
    rw [e] at this
    cases this
    exact hE q hq hc) e
theorem lenW_bound {ws : List PySem.Str} (hl : ∀ v ∈ ws, v.length ≤ 1000) (hz : ws.length ≤ 1000) : 0 ≤ lenW ws ∧ lenW ws < 2 ^ 63 := by
  have key : ∀ l : List PySem.Str, (∀ v ∈ l, v.length ≤ 1000) → 0 ≤ lenW l ∧ lenW l ≤ 1001 * l.length := by
    intro l
    induction l with
    | nil => intro _; simp [lenW]
    | cons a l ih =>
      intro hh
      have h1 := hh a (.head _)
      have h2 := ih fun v hv => hh v (.tail _ hv)
      unfold lenW at h2 ⊢
      simp only [List.map_cons, List.sum_cons, List.length_cons]
      push_cast
      omega
  have := key ws hl
  omega
theorem part_count_K (w : World) {p : Program} {loose : List PySem.Str} {mean : ExcName → Option Value} {mg mb : PySem.Str → Option Value} (dp un : Nat) (gd : Option (List Code)) (cn : PySem.Str) (cs : Scope) (a : Addr) (ccd : Value) (cl : List (PySem.Str × Addr)) (outer : List Env) (A₀ : Around) (base h₀ : Heap) (L : Addr) (m : PySem.Str → Option Value) (s : Shared) (Q E : Value → Shared → Prop) (x dx : Addr) (its : Array Value) (n n1 : Nat) (e1 : Int) (k1 t0 : Tok) (news : List (Addr × Obj))
    (B : Below A₀ base outer h₀) (F : Fr h₀ L s.heap m) (X : (Mine.hd.heap_1 w.params).In h₀) (T : Top p loose mean mg mb h₀) (hk : cs.kind = .function) (hd : dp + 3 < recursionLimit) (hu : un + 8 < cLine)
    (N : News h₀ L s.heap news) (hx : (x, accO dx its n) ∈ news) (hdx : (dx, dictOf [⟨e1, .str (Str.ofString "_initial_size") k1, .int 0 t0⟩] n1) ∈ news)
    (h : ∀ h' tk' t', Fr h₀ L h' m → News h₀ L h' news → Q (.int its.size t') { s with heap := h', toks := tk' })
    : wpAny (model PySem.Challenge.rw_wn0105_01.row.prog w) (ktrTop dp un gd cn cs L a ccd cl outer) (call (.ref 217) [.ref x]) Q E s :=
  part_count_ok w dp un gd cn cs a ccd cl outer A₀ base h₀ L m s Q E x dx its n n1 e1 k1 t0 B F X T hk hd hu (News.two N hx hdx) (ne_obj N hx hdx nofun) fun h' tk' t' F' N' kb => h h' tk' t' F' (news_same N (News.two N hx hdx) kb N')

theorem len_K (w : World) {p : Program} {loose : List PySem.Str} {mean : ExcName → Option Value} {mg mb : PySem.Str → Option Value} (dp un : Nat) (gd : Option (List Code)) (cn : PySem.Str) (cs : Scope) (a : Addr) (ccd : Value) (cl : List (PySem.Str × Addr)) (outer : List Env) (A₀ : Around) (base h₀ : Heap) (L : Addr) (m : PySem.Str → Option Value) (s : Shared) (Q E : Value → Shared → Prop) (x dx : Addr) (its : Array Value) (n n1 : Nat) (e1 : Int) (k1 t0 : Tok) (ps : Array Value) (ws : List PySem.Str) (news : List (Addr × Obj)) (news' : Array Value → List (Addr × Obj))
    (B : Below A₀ base outer h₀) (F : Fr h₀ L s.heap m) (X : (Mine.hd.heap_1 w.params).In h₀) (T : Top p loose mean mg mb h₀) (hk : cs.kind = .function) (hd : dp + 3 < recursionLimit) (hu : un + 8 < cLine)
    (N : News h₀ L s.heap news) (hx : (x, accO dx its n) ∈ news) (hdx : (dx, dictOf [⟨e1, .str (Str.ofString "_initial_size") k1, .int 0 t0⟩] n1) ∈ news) (U : ∀ ps', Upds [(182, tabObj ps)] [(182, tabObj ps')] news (news' ps'))
    (hps : psOk pos132 ps) (hT : TupsAt s.heap its ws) (hl : ∀ v ∈ ws, v.length ≤ 1000) (hz : its.size ≤ 1000)
    (h : ∀ ps' h' gs tk' t', Fr h₀ L h' m → News h₀ L h' (news' ps') → psOk pos132 ps' → (AllBare s.gens → AllBare gs) → (0 ≤ lenW ws ∧ lenW ws < 2 ^ 63) → Q (.int (lenW ws) t') { s with heap := h', gens := gs, toks := tk' })
    : wpAny (model PySem.Challenge.rw_wn0105_01.row.prog w) (ktrTop dp un gd cn cs L a ccd cl outer) (call (.ref 187) [.ref x]) Q E s := by
  have h8 : (182, tabObj ps) ∈ news := by cases U #[] with | cons U _ => exact upd_here U
  have N3 := News.three N hx hdx h8
  refine len_ok w dp un gd cn cs a ccd cl outer A₀ base h₀ L m s Q E x dx its n n1 e1 k1 t0 ps ws B F X T hk hd hu N3 ⟨ne_obj N hx hdx nofun, ne_obj N hx h8 nofun, ne_obj N hdx h8 nofun⟩ hps hT hl fun ps' h' gs tk' t' F' N' hp hb kb => h ps' h' gs tk' t' F' (news_upds N N3 (U ps') kb N' (by simp) ?_) hp hb (lenW_bound hl (hT.1 ▸ hz))
  intro p hp hn
  simp only [List.mem_cons, List.not_mem_nil, or_false] at hp
  rcases hp with rfl | rfl | rfl
  · simp
  · simp
  · exact absurd (by simp) hn

theorem str_K (w : World) {p : Program} {loose : List PySem.Str} {mean : ExcName → Option Value} {mg mb : PySem.Str → Option Value} (dp un : Nat) (gd : Option (List Code)) (cn : PySem.Str) (cs : Scope) (a : Addr) (ccd : Value) (cl : List (PySem.Str × Addr)) (outer : List Env) (A₀ : Around) (base h₀ : Heap) (L : Addr) (m : PySem.Str → Option Value) (s : Shared) (Q E : Value → Shared → Prop) (x dx : Addr) (its : Array Value) (n n1 : Nat) (e1 : Int) (k1 t0 : Tok) (ps : Array Value) (ws : List PySem.Str) (news : List (Addr × Obj)) (news' : Array Value → List (Addr × Obj))
    (B : Below A₀ base outer h₀) (F : Fr h₀ L s.heap m) (X : (Mine.hd.heap_1 w.params).In h₀) (T : Top p loose mean mg mb h₀) (hk : cs.kind = .function) (hd : dp + 3 < recursionLimit) (hu : un + 8 < cLine)
    (N : News h₀ L s.heap news) (hx : (x, accO dx its n) ∈ news) (hdx : (dx, dictOf [⟨e1, .str (Str.ofString "_initial_size") k1, .int 0 t0⟩] n1) ∈ news) (U : ∀ ps', Upds [(189, tabObj ps)] [(189, tabObj ps')] news (news' ps'))
    (hps : psOk pos135 ps) (hT : TupsAt s.heap its ws) (hl : ∀ v ∈ ws, v.length ≤ 1000) (hsz : its.size ≤ 1000)
    (h : ∀ ps' h' gs tk' t', Fr h₀ L h' m → News h₀ L h' (news' ps') → psOk pos135 ps' → (AllBare s.gens → AllBare gs) → Tk s.heap h' → Q (.str (txt ws) t') { s with heap := h', gens := gs, toks := tk' })
    : wpAny (model PySem.Challenge.rw_wn0105_01.row.prog w) (ktrTop dp un gd cn cs L a ccd cl outer) (call (.ref 194) [.ref x]) Q E s := by
  have h8 : (189, tabObj ps) ∈ news := by cases U #[] with | cons U _ => exact upd_here U
  have N3 := News.three N hx hdx h8
  refine str_ok w dp un gd cn cs a ccd cl outer A₀ base h₀ L m s Q E x dx its n n1 e1 k1 t0 ps ws B F X T hk hd hu N3 ⟨ne_obj N hx hdx nofun, ne_obj N hx h8 nofun, ne_obj N hdx h8 nofun⟩ hps hT hl hsz fun ps' h' gs tk' t' F' N' hp hb kb => h ps' h' gs tk' t' F' (news_upds N N3 (U ps') kb N' (by simp) ?_) hp hb (Tk.of N3 kb (by simp))
  intro p hp hn
  simp only [List.mem_cons, List.not_mem_nil, or_false] at hp
  rcases hp with rfl | rfl | rfl
  · simp
  · simp
  · exact absurd (by simp) hn

theorem push_K (w : World) {p : Program} {loose : List PySem.Str} {mean : ExcName → Option Value} {mg mb : PySem.Str → Option Value} (dp un : Nat) (gd : Option (List Code)) (cn : PySem.Str) (cs : Scope) (a : Addr) (ccd : Value) (cl : List (PySem.Str × Addr)) (outer : List Env) (A₀ : Around) (base h₀ : Heap) (L : Addr) (m : PySem.Str → Option Value) (s : Shared) (Q E : Value → Shared → Prop) (x dx : Addr) (its : Array Value) (n n1 : Nat) (e1 : Int) (k1 t0 tf tv : Tok) (f v : PySem.Str) (news : List (Addr × Obj)) (news' : Addr → List (Addr × Obj))
    (B : Below A₀ base outer h₀) (F : Fr h₀ L s.heap m) (X : (Mine.hd.heap_1 w.params).In h₀) (T : Top p loose mean mg mb h₀) (hk : cs.kind = .function) (hd : dp + 1 < recursionLimit) (hu : un + 8 < cLine)
    (N : News h₀ L s.heap news) (hdx : (dx, dictOf [⟨e1, .str (Str.ofString "_initial_size") k1, .int 0 t0⟩] n1) ∈ news) (U : ∀ tp, Upds [(x, accO dx its n)] [(x, accO dx (its.push (.ref tp)) (n + 1))] news (news' tp)) (hsz : its.size ≤ 1000)
    (h : ∀ tp h' tk', Fr h₀ L h' m → News h₀ L h' ((tp, { cls := .type "tuple", data := .seq #[.str f tf, .str v tv] }) :: news' tp) → (∀ p ∈ news, p.1 ≠ tp) → Q .none { s with heap := h', toks := tk' })
    : wpAny (model PySem.Challenge.rw_wn0105_01.row.prog w) (ktrTop dp un gd cn cs L a ccd cl outer) (call (.ref 164) [.ref x, .str f tf, .str v tv]) Q E s := by
  have hx : (x, accO dx its n) ∈ news := by cases U 0 with | cons U _ => exact upd_here U
  have N2 := News.two N hx hdx
  refine push_ok w dp un gd cn cs a ccd cl outer A₀ base h₀ L m s Q E x dx its n n1 e1 k1 t0 tf tv f v B F X T hk hd hu N2 (ne_obj N hx hdx nofun) hsz fun tp h' tk' F' N' kb hf => h tp h' tk' F' (fun p hp => ?_) (ne_fresh N hf)
  rcases List.mem_cons.mp hp with rfl | hp
  · exact N' _ (.head _)
  · refine news_upds N N2 (U tp) kb N' (by simp) ?_ p hp
    intro p hp hn
    simp only [List.mem_cons, List.not_mem_nil, or_false] at hp
    rcases hp with rfl | rfl
    · exact absurd (by simp) hn
    · simp
theorem push_KC (w : World) {p : Program} {loose : List PySem.Str} {mean : ExcName → Option Value} {mg mb : PySem.Str → Option Value} (dp un : Nat) (gd : Option (List Code)) (cn : PySem.Str) (cs : Scope) (a : Addr) (ccd : Value) (cl : List (PySem.Str × Addr)) (outer : List Env) (A₀ : Around) (base h₀ : Heap) (L : Addr) (m : PySem.Str → Option Value) (s : Shared) (Q E : Value → Shared → Prop) (x dx : Addr) (its : Array Value) (n n1 : Nat) (e1 : Int) (k1 t0 tf tv : Tok) (f v : PySem.Str) (news : List (Addr × Obj)) (news' : Addr → List (Addr × Obj))
    (B : Below A₀ base outer h₀) (F : Fr h₀ L s.heap m) (X : (Mine.hd.heap_1 w.params).In h₀) (T : Top p loose mean mg mb h₀) (hk : cs.kind = .function) (hd : dp + 1 < recursionLimit) (hu : un + 8 < cLine)
    (N : News h₀ L s.heap news) (hdx : (dx, dictOf [⟨e1, .str (Str.ofString "_initial_size") k1, .int 0 t0⟩] n1) ∈ news) (U : ∀ tp, Upds [(x, accO dx its n)] [(x, accO dx (its.push (.ref tp)) (n + 1))] news (news' tp)) (hsz : its.size ≤ 1000)
    (h : ∀ tp h' tk', Fr h₀ L h' m → News h₀ L h' ((tp, { cls := .type "tuple", data := .seq #[.str f tf, .str v tv] }) :: news' tp) → (∀ p ∈ news, p.1 ≠ tp) → Q .none { s with heap := h', toks := tk' })
    : codeAny (model PySem.Challenge.rw_wn0105_01.row.prog w) (ktrTop dp un gd cn cs L a ccd cl outer) (.call (.ref 164) ⟨[.ref x, .str f tf, .str v tv], []⟩) (fun r s' => match r with | .ok (.ret v) => Q v s' | .ok _ => False | .error e => E e s') s := by
  have hx : (x, accO dx its n) ∈ news := by cases U 0 with | cons U _ => exact upd_here U
  have N2 := News.two N hx hdx
  refine push_code w dp un gd cn cs a ccd cl outer A₀ base h₀ L m s Q E x dx its n n1 e1 k1 t0 tf tv f v B F X T hk hd hu N2 (ne_obj N hx hdx nofun) hsz fun tp h' tk' F' N' kb hf => h tp h' tk' F' (fun p hp => ?_) (ne_fresh N hf)
  rcases List.mem_cons.mp hp with rfl | hp
  · exact N' _ (.head _)
  · refine news_upds N N2 (U tp) kb N' (by simp) ?_ p hp
    intro p hp hn
    simp only [List.mem_cons, List.not_mem_nil, or_false] at hp
    rcases hp with rfl | rfl
    · exact absurd (by simp) hn
    · simp
end Mine
end
section
open PySem PySem.W PyProof.Rows PySem.Calls PySem.Spec
set_option maxRecDepth 100000
namespace Mine
local macro_rules | `(tactic| k_mem) => `(tactic| assumption)
local macro_rules | `(tactic| k_inst) => `(tactic| (refine' Mine.InstAt.ofAcc ?N ?h1 ?h2; (case N => k_asm); (case h1 => k_mem); (case h2 => k_mem)))
local macro_rules | `(tactic| k_ne) => `(tactic| (refine neN ?_; (try dsimp only); first | exact Mine.NeA.ne (by with_reducible assumption) | exact Mine.NeA.ne' (by with_reducible assumption) | omega))
local macro_rules | `(tactic| walk_at $s:str) => `(tactic| k_extra $s)
theorem words_C2 : True := by
  k_with_none
  w_top off
  k_with "myenter" => (first | ((refine' Mine.enterR (by k_asm) (by k_asm) (by k_asm) (by k_asm) (by k_asm) (by exact rfl) (by exact rfl) (by assumption) (by k_is) (by k_is) (by ktr_room) (by first | exact BindsTo.of_eq rfl | exact binds_K (by k_in) rfl (by k_is) rfl rfl rfl) (by exact locs rfl) ?_ (by exact rfl) (by exact rfl) (by exact rfl) (by decide); k_whole; intro g' L' h' hG' FG' F' N' B' X' T' l1; (try k_lt l1); (try dsimp only); (try k_lift B'); (try k_fold))) | fail "no")
  k_with "mylen" => (first | (first | omega | (simp only [PySem.Str.length_append, PySem.sizeLine_eq] at *; omega)) | fail "no")
  k_with "getMethod ref" => (first | ((k_here; k_dflt (first | refine' Mine.method_fnL (by k_in) (by k_inst) (by k_is) (by k_is) (by k_is) (by k_is) (by exact Mine.shadow_dict (by k_get)) ?_; k_whole | refine' Mine.method_biL (by k_in) (by k_inst) (by k_is) (by k_is) (by k_is) (by exact PySem.F.type_list_append) (by exact Mine.shadow_dict (by k_get)) ?_; k_whole))) | fail "no")
  k_with "call builtin:list.append" => (first | ((k_here; (with_reducible show wpAny _ _ (call (Value.builtin _) [Value.ref _, _]) _ _ _); k_dflt (refine' Mine.append_accL (by k_asm) (by k_asm) (by k_asm) (by k_upd) (by k_mem) (by k_is) ?_ (by walk_at "mylen"); k_whole); intro h' F' N'; (try k_sweep))) | fail "no")
  k_with "getAttr ref" => (first | ((k_here; k_dflt (refine' Mine.get_ownL' (by k_asm) (by k_asm) (by k_inst) (by k_is) (by k_is) (by k_is) (by k_is) (by k_is) (by k_is) (by k_get) (by k_handed) ?_; k_whole))) | fail "no")
  k_with "mytups" => (first | (first | assumption | exact Mine.TupsAt.keeps (by assumption) (fun b o e _ => Fr.keep (by k_asm) b o e)) | fail "no")
  k_with "eval GeneratorExp" => (first | ((k_here; k_dflt (first | ((with_reducible show wpAny _ _ (eval (Expr.GeneratorExp (Expr.BinOp _ _ _ _) _ _ _) _) _ _ _); refine' Mine.gen_len_K (by k_asm) (by k_asm) (by k_asm) (by k_asm) (by exact rfl) (by exact rfl) (by exact rfl) (by exact rfl) (by exact rfl) (by ktr_room) (by k_mem) (by k_mem) (by (intro ps'; k_upd)) (by assumption) (by walk_at "mytups") (by assumption) ?_) | ((with_reducible show wpAny _ _ (eval (Expr.GeneratorExp (Expr.Call _ _ _ _) _ _ _) _) _ _ _); refine' Mine.gen_join_K (by exact rfl) (by k_asm) (by k_asm) (by k_asm) (by k_asm) (by exact rfl) (by exact rfl) (by exact rfl) (by exact rfl) (by exact rfl) (by ktr_room) (by k_mem) (by k_mem) (by (intro ps'; k_upd)) (by assumption) (by walk_at "mytups") (by assumption) ?_)); intro a' ps' h' gs' tk' lo' F' N' hps' hAB' hlo' hlo2' G'; (try dsimp only at N'))) | fail "no")
  k_with "call builtin:sum" => (first | ((k_here; k_dflt (refine' Mine.sum_len_K (by k_asm) (by k_asm) (by refine Mine.Gen.toks (by assumption) ?_; first | exact Nat.le_succ _ | exact Nat.le_refl _) (by exact (Mine.TupsAt.size (by assumption)).symm) (by assumption) (by assumption) ?_); intro h' gs' tk' t' F' N' hAB' hK')) | fail "no")
  k_with "call builtin:str.join" => (first | ((k_here; (with_reducible show wpAny _ _ (call (Value.builtin _) [Value.str _ _, Value.ref _]) _ _ _); k_dflt (refine' Mine.join_str_K (by k_asm) (by k_asm) (by refine Mine.Gen.toks (by assumption) ?_; first | exact Nat.le_succ _ | exact Nat.le_refl _) (by exact (Mine.TupsAt.size (by assumption)).symm) (by assumption) (by assumption) (by assumption) (by assumption) ?_); intro h' gs' tk' t' F' N' hAB' hK')) | fail "no")
  k_with "ksenter" => (first | ((refine' Mine.ks_codeR (by k_asm) (by k_asm) (by k_asm) (by k_asm) (by k_asm) (by exact rfl) (by exact rfl) (by assumption) (by k_is) (by k_is) (by ktr_room) (by first | exact BindsTo.of_eq rfl | exact binds_K (by k_in) rfl (by k_is) rfl rfl rfl) (by exact locs rfl) ?_ (by decide) (by exact rfl) (by exact rfl) (by exact rfl); intro g' L' h' hG' FG' F' N' B' X' T' l1; (try k_lt l1); (try dsimp only); (try k_lift B'); (try k_fold))) | fail "no")
  k_with "getMethod ref" => (first | ((k_here; k_dflt (refine' Mine.meth_len_K (by k_asm) (by k_asm) (by k_asm) (by k_mem) (by k_inst) (by k_is) (by k_is) (by ks_is) (by decide) (by first | exact Mine.ty_len | exact Mine.ty_pop | exact Mine.ty_init) (by first | exact Or.inl ⟨rfl, rfl⟩ | exact Or.inr ⟨rfl, rfl⟩) (by first | exact Mine.nc_len | exact Mine.nc_pop | exact Mine.nc_init) (by decide +kernel) ?_; intro q' h' F' N' l1; (try k_lt l1)))) | fail "no")
  k_with "callWith ref" => (first | ((k_here; k_dflt (refine' Mine.callWith_B (by k_asm) (by k_mem) (by first | exact Or.inl rfl | exact Or.inr rfl) ?_))) | fail "no")
  k_with "call ref" => (first | ((k_here; k_dflt (first | (refine' Mine.call_len_K (by k_asm) (by k_mem) (by k_mem) ?_; intro t' tk') | (refine' Mine.call_pop_K (by k_asm) (by k_asm) (by k_asm) (by k_mem) (by k_upd) (by k_mem) (by exact rfl) (by rfl) (by k_is) (by k_is) (by walk_at "mylen") ?_; intro h' F' N')))) | fail "no")
  k_with "newsx" => (first | (first | (intro _; exact News.nil) | (intro nx; refine' Mine.News.one nx (by k_mem) (by walk_at "newsx"))) | fail "no")
  k_with "news" => (first | (first | assumption | (refine' Mine.News.one (by assumption) (by k_mem) (by walk_at "newsx")) | (refine News.perm (by assumption) ?_; simp; done) | (refine News.perm (by assumption) ?_; intro p hp; simp only [List.mem_cons, List.not_mem_nil, or_false] at hp ⊢; rcases hp with rfl | hp <;> simp_all)) | fail "no")
  k_with "kb" => (first | (exact Mine.KB.fin (by assumption) (by assumption)) | fail "no")
  k_with "splitne" => (first | ((repeat ((with_reducible rename Mine.NeA _ _ ∧ _ => kc'); (first | (refine Mine.sp16 kc' ?_; intro _ _ _ _ _ _ _ _ _ _ _ _ _ _ _ _ _) | (refine Mine.sp8 kc' ?_; intro _ _ _ _ _ _ _ _ _) | (refine Mine.sp4 kc' ?_; intro _ _ _ _ _) | (refine Mine.sp2 kc' ?_; intro _ _ _) | (refine Mine.sp1 kc' ?_; intro _ _)); clear kc'))) | fail "no")
  k_with "upds" => (first | (first | exact Mine.Upds.nil | (refine' Mine.Upds.cons (by k_upd) (by walk_at "upds"))) | fail "no")
  k_with "mylens" => (first | (assumption) | fail "no")
  k_with "call ref" => (first | ((k_here; k_dflt ((first | with_reducible show wpAny _ _ (call (Value.ref 217) _) _ _ _ | with_reducible show wpAny _ _ (call (Value.ref (nat_lit 217)) _) _ _ _); refine' Mine.part_count_K _ _ _ _ _ _ _ _ _ _ _ _ _ _ _ _ _ _ _ _ _ _ _ _ _ _ _ (by k_asm) (by k_asm) (by k_asm) (by k_asm) (by first | assumption | exact rfl) (by (dsimp only [ktrTop, Around.deeper]; omega)) (by (dsimp only [ktrTop, Around.deeper]; omega)) (by k_asm) (by k_mem) (by k_mem) ?_); intro h' tk' t' F' N')) | fail "no")
  k_with "call ref" => (first | ((k_here; k_dflt ((first | with_reducible show wpAny _ _ (call (Value.ref 187) _) _ _ _ | with_reducible show wpAny _ _ (call (Value.ref (nat_lit 187)) _) _ _ _); refine' Mine.len_K _ _ _ _ _ _ _ _ _ _ _ _ _ _ _ _ _ _ _ _ _ _ _ _ _ _ _ _ _ _ (by k_asm) (by k_asm) (by k_asm) (by k_asm) (by first | assumption | exact rfl) (by (dsimp only [ktrTop, Around.deeper]; omega)) (by (dsimp only [ktrTop, Around.deeper]; omega)) (by k_asm) (by k_mem) (by k_mem) (by (intro ps'; walk_at "upds")) (by assumption) (by walk_at "mytups") (by walk_at "mylens") (by walk_at "mylen") ?_); intro ps' h' gs' tk' t' F' N' hps' hAB' hlb'; (try dsimp only at N'); (try (refine Mine.len_back (by assumption) ?_)))) | fail "no")
  k_with "call ref" => (first | ((k_here; k_dflt ((first | with_reducible show wpAny _ _ (call (Value.ref 194) _) _ _ _ | with_reducible show wpAny _ _ (call (Value.ref (nat_lit 194)) _) _ _ _); refine' Mine.str_K _ _ _ _ _ _ _ _ _ _ _ _ _ _ _ _ _ _ _ _ _ _ _ _ _ _ _ _ _ _ (by k_asm) (by k_asm) (by k_asm) (by k_asm) (by first | assumption | exact rfl) (by (dsimp only [ktrTop, Around.deeper]; omega)) (by (dsimp only [ktrTop, Around.deeper]; omega)) (by k_asm) (by k_mem) (by k_mem) (by (intro ps'; walk_at "upds")) (by assumption) (by walk_at "mytups") (by walk_at "mylens") (by walk_at "mylen") ?_); intro ps' h' gs' tk' t' F' N' hps' hAB' hTk'; (try dsimp only at N'); (try dsimp only [W.StrBack]))) | fail "no")
  k_with "call ref" => (first | ((k_here; k_dflt ((first | with_reducible show wpAny _ _ (call (Value.ref 164) _) _ _ _ | with_reducible show wpAny _ _ (call (Value.ref (nat_lit 164)) _) _ _ _); refine' Mine.push_K _ _ _ _ _ _ _ _ _ _ _ _ _ _ _ _ _ _ _ _ _ _ _ _ _ _ _ _ _ _ _ _ (by k_asm) (by k_asm) (by k_asm) (by k_asm) (by first | assumption | exact rfl) (by (dsimp only [ktrTop, Around.deeper]; omega)) (by (dsimp only [ktrTop, Around.deeper]; omega)) (by k_asm) (by k_mem) (by (intro tp'; walk_at "upds")) (by walk_at "mylen") ?_); intro tp' h' tk' F' N' hne'; (try dsimp only at N'); (replace hne' := Mine.allNe_of hne'; dsimp only [Mine.AllNe] at hne'; walk_at "splitne"))) | fail "no")
  k_with "subscriptTail Name Slice ref ref" => (first | ((k_here; (with_reducible show wpAny _ _ (subscriptTail _ (PySem.Expr.Slice _ _ none _) (Value.ref _) (Value.ref _)) _ _ _); k_dflt (refine' Mine.slice_K (by k_asm) (by k_asm) (by k_asm) (by k_mem) (by k_mem) (by k_is) (by k_is) (by k_is) (by kmk_part) (by kmk_part) (by walk_at "mylen") (by first | exact Mine.pick_from (by assumption) | exact rfl) ?_ (by with_unfolding_all rfl) (by kmk_pure)); intro D' h' F' N' l1; (try k_lt l1))) | fail "no")
  k_with "setItem ref ref" => (first | ((k_here; k_dflt (refine' Mine.setitem_K (by k_asm) (by k_asm) (by k_asm) (by kmk_list) (by (intro n'; k_upd)) (by k_mem) (by k_is) (by k_is) (by k_is) (by kmk_part) (by kmk_part) (by walk_at "mylen") (by first | walk_at "mylen" | (simp; done)) (by first | exact Mine.set_from (by assumption) | exact Mine.set_all | exact rfl) ?_); intro n' h' F' N'; (try dsimp only at N'))) | fail "no")
  k_with "setAttr ref" => (first | ((k_here; k_dflt (refine' Mine.set_dictL (by k_asm) (by k_asm) (by k_asm) (by k_inst) (by exact rfl) (by k_is) (by exact Mine.mro220 _) (by k_is) (by k_is) (by k_get) (by k_put) (by k_upd) (by exact Nat.le_of_ble_eq_true rfl) ?_; k_whole; intro h' F' N'; (try k_sweep)))) | fail "no")
  k_with "wpAt" => (first | (((with_reducible show _root_.PySem.wpAt _ _ _ (execs (_ :: _) _) _ _ _); refine ks_wpAt_execs_cons ?_)) | fail "no")
  k_with "wpAt" => (first | ((ks_step "eval Call"; k_dflt (refine ks_wpAt_MethodCall ?_))) | fail "no")
  k_with "truthy ref" => (first | ((k_here; k_dflt (refine' Mine.truthy_lenL (by k_in) (by k_inst) (by k_is) (by k_is) (by k_is) ?_; k_whole))) | fail "no")
  k_with "Exists" => (first | ((refine ⟨_, _, rfl, ?_⟩)) | fail "no")
  k_with "units" => (first | (first | k_units | (dsimp only [ktrTop, Around.deeper, Around.in1]; omega) | (simp only [ktrTop, Around.deeper, Around.in1, Around.under]; omega)) | fail "no")
  k_with "call type:str" => (first | ((k_here; (with_reducible show wpAny _ _ (call (Value.type "str") [Value.ref _]) _ _ _); k_dflt (refine' kso_call (by walk_at "units") (by k_in) (by k_inst) (by k_is) (by k_is) ?_; k_whole))) | fail "no")
  trivial
def NeA (a b : Addr) : Prop := @Ne Nat a b
theorem NeA.ne {a b : Addr} (h : NeA a b) : @Ne Nat a b := h
theorem NeA.ne' {a b : Addr} (h : NeA a b) : @Ne Nat b a := fun e => h e.symm
def AllNe (tp : Addr) : List (Addr × Obj) → Prop
  | [] => True
  | p :: r => NeA p.1 tp ∧ AllNe tp r
theorem allNe_of {tp : Addr} : ∀ {l : List (Addr × Obj)}, (∀ p ∈ l, p.1 ≠ tp) → AllNe tp l
  | [], _ => trivial
  | p :: _, h => ⟨h p (.head _), allNe_of fun q hq => h q (.tail _ hq)⟩
theorem sp1 {p0 r g : Prop} (h : p0 ∧ r) (k : p0 → r → g) : g := k h.1 h.2
theorem sp2 {p0 p1 r g : Prop} (h : p0 ∧ p1 ∧ r) (k : p0 → p1 → r → g) : g := k h.1 h.2.1 h.2.2
theorem sp4 {p0 p1 p2 p3 r g : Prop} (h : p0 ∧ p1 ∧ p2 ∧ p3 ∧ r) (k : p0 → p1 → p2 → p3 → r → g) : g := k h.1 h.2.1 h.2.2.1 h.2.2.2.1 h.2.2.2.2
theorem sp8 {p0 p1 p2 p3 p4 p5 p6 p7 r g : Prop} (h : p0 ∧ p1 ∧ p2 ∧ p3 ∧ p4 ∧ p5 ∧ p6 ∧ p7 ∧ r) (k : p0 → p1 → p2 → p3 → p4 → p5 → p6 → p7 → r → g) : g := k h.1 h.2.1 h.2.2.1 h.2.2.2.1 h.2.2.2.2.1 h.2.2.2.2.2.1 h.2.2.2.2.2.2.1 h.2.2.2.2.2.2.2.1 h.2.2.2.2.2.2.2.2
theorem sp16 {p0 p1 p2 p3 p4 p5 p6 p7 p8 p9 p10 p11 p12 p13 p14 p15 r g : Prop} (h : p0 ∧ p1 ∧ p2 ∧ p3 ∧ p4 ∧ p5 ∧ p6 ∧ p7 ∧ p8 ∧ p9 ∧ p10 ∧ p11 ∧ p12 ∧ p13 ∧ p14 ∧ p15 ∧ r) (k : p0 → p1 → p2 → p3 → p4 → p5 → p6 → p7 → p8 → p9 → p10 → p11 → p12 → p13 → p14 → p15 → r → g) : g := k h.1 h.2.1 h.2.2.1 h.2.2.2.1 h.2.2.2.2.1 h.2.2.2.2.2.1 h.2.2.2.2.2.2.1 h.2.2.2.2.2.2.2.1 h.2.2.2.2.2.2.2.2.1 h.2.2.2.2.2.2.2.2.2.1 h.2.2.2.2.2.2.2.2.2.2.1 h.2.2.2.2.2.2.2.2.2.2.2.1 h.2.2.2.2.2.2.2.2.2.2.2.2.1 h.2.2.2.2.2.2.2.2.2.2.2.2.2.1 h.2.2.2.2.2.2.2.2.2.2.2.2.2.2.1 h.2.2.2.2.2.2.2.2.2.2.2.2.2.2.2.1 h.2.2.2.2.2.2.2.2.2.2.2.2.2.2.2.2
set_option maxHeartbeats 1000000 in
theorem pop_ok (w : World) {p : Program} {loose : List PySem.Str} {mean : ExcName → Option Value} {mg mb : PySem.Str → Option Value} (dp un : Nat) (gd : Option (List Code)) (cn : PySem.Str) (cs : Scope) (a : Addr) (ccd : Value) (cl : List (PySem.Str × Addr)) (outer : List Env) (A₀ : Around) (base h₀ : Heap) (L : Addr) (m : PySem.Str → Option Value) (s : Shared) (Q E : Value → Shared → Prop) (x dx : Addr) (its : Array Value) (v : Value) (n n1 : Nat) (e1 : Int) (k1 t0 : Tok)
    (B : Below A₀ base outer h₀) (F : Fr h₀ L s.heap m) (X : (Mine.hd.heap_1 w.params).In h₀) (T : Top p loose mean mg mb h₀) (hk : cs.kind = .function) (hd : dp + 4 < recursionLimit) (hu : un + 40 < cLine)
    (N : News h₀ L s.heap [(x, accO dx (its.push v) n), (dx, dictOf [⟨e1, .str (Str.ofString "_initial_size") k1, .int 0 t0⟩] n1)])
    (hne : @Ne Nat x dx) (hsz : its.size ≤ 1000)
    (hret : ∀ h' tk', Fr h₀ L h' m → News h₀ L h' [(x, accO dx its (n + 1)), (dx, dictOf [⟨e1, .str (Str.ofString "_initial_size") k1, .int 0 t0⟩] n1)] →
      KB [(x, accO dx (its.push v) n), (dx, dictOf [⟨e1, .str (Str.ofString "_initial_size") k1, .int 0 t0⟩] n1)] s.heap h' → Q v { s with heap := h', toks := tk' })
    : wpAny (model PySem.Challenge.rw_wn0105_01.row.prog w) (ktrTop dp un gd cn cs L a ccd cl outer) (call (.ref 180) [.ref x]) Q E s := by
  revert X; k_fill; intro X
  refine wpAny_call ?_
  k_dflt walk_at "ksenter"
  k_steps
  · exfalso
    simp only [Array.size_push] at *
    omega
  · exact hret _ _ (by k_asm) (by walk_at "news") (by walk_at "kb")
set_option maxHeartbeats 1000000 in
theorem pop_from_ok (w : World) {p : Program} {loose : List PySem.Str} {mean : ExcName → Option Value} {mg mb : PySem.Str → Option Value} (dp un : Nat) (gd : Option (List Code)) (cn : PySem.Str) (cs : Scope) (a : Addr) (ccd : Value) (cl : List (PySem.Str × Addr)) (outer : List Env) (A₀ : Around) (base h₀ : Heap) (L : Addr) (m : PySem.Str → Option Value) (s : Shared) (Q E : Value → Shared → Prop) (x dx : Addr) (its : Array Value) (i : Nat) (ti : Tok) (n n1 : Nat) (e1 : Int) (k1 t0 : Tok)
    (B : Below A₀ base outer h₀) (F : Fr h₀ L s.heap m) (X : (Mine.hd.heap_1 w.params).In h₀) (T : Top p loose mean mg mb h₀) (hk : cs.kind = .function) (hd : dp + 4 < recursionLimit) (hu : un + 40 < cLine)
    (N : News h₀ L s.heap [(x, accO dx its n), (dx, dictOf [⟨e1, .str (Str.ofString "_initial_size") k1, .int 0 t0⟩] n1)])
    (hne : @Ne Nat x dx) (hsz : its.size ≤ 1000) (hi : i ≤ its.size)
    (hret : ∀ D n' h' tk', Fr h₀ L h' m → News h₀ L h' [(D, W.listOf (its.extract i its.size) 0), (x, accO dx (its.extract 0 i) n'), (dx, dictOf [⟨e1, .str (Str.ofString "_initial_size") k1, .int 0 t0⟩] n1)] →
      KB [(x, accO dx its n), (dx, dictOf [⟨e1, .str (Str.ofString "_initial_size") k1, .int 0 t0⟩] n1)] s.heap h' → s.heap.get? D = none → Q (.ref D) { s with heap := h', toks := tk' })
    : wpAny (model PySem.Challenge.rw_wn0105_01.row.prog w) (ktrTop dp un gd cn cs L a ccd cl outer) (call (.ref 172) [.ref x, .int i ti]) Q E s := by
  revert X; k_fill; intro X
  refine wpAny_call ?_
  k_dflt walk_at "myenter"
  k_steps
  exact hret _ _ _ _ (by k_asm) (by walk_at "news") (by walk_at "kb") (Mine.fresh_in (by assumption) (by assumption) (by k_mem) (by k_all))
end Mine
end
section
open PySem PySem.W PyProof.Rows PySem.Calls PySem.Spec
set_option maxRecDepth 100000
namespace Mine
local macro_rules | `(tactic| k_mem) => `(tactic| assumption)
local macro_rules | `(tactic| k_inst) => `(tactic| (refine' Mine.InstAt.ofAcc ?N ?h1 ?h2; (case N => k_asm); (case h1 => k_mem); (case h2 => k_mem)))
local macro_rules | `(tactic| k_ne) => `(tactic| (refine neN ?_; (try dsimp only); first | exact Mine.NeA.ne (by with_reducible assumption) | exact Mine.NeA.ne' (by with_reducible assumption) | omega))
local macro_rules | `(tactic| walk_at $s:str) => `(tactic| k_extra $s)
theorem words_C3 : True := by
  k_with_none
  w_top off
  k_with "myenter" => (first | ((refine' Mine.enterR (by k_asm) (by k_asm) (by k_asm) (by k_asm) (by k_asm) (by exact rfl) (by exact rfl) (by assumption) (by k_is) (by k_is) (by ktr_room) (by first | exact BindsTo.of_eq rfl | exact binds_K (by k_in) rfl (by k_is) rfl rfl rfl) (by exact locs rfl) ?_ (by exact rfl) (by exact rfl) (by exact rfl) (by decide); k_whole; intro g' L' h' hG' FG' F' N' B' X' T' l1; (try k_lt l1); (try dsimp only); (try k_lift B'); (try k_fold))) | fail "no")
  k_with "mylen" => (first | (first | omega | (simp only [PySem.Str.length_append, PySem.sizeLine_eq] at *; omega)) | fail "no")
  k_with "getMethod ref" => (first | ((k_here; k_dflt (first | refine' Mine.method_fnL (by k_in) (by k_inst) (by k_is) (by k_is) (by k_is) (by k_is) (by exact Mine.shadow_dict (by k_get)) ?_; k_whole | refine' Mine.method_biL (by k_in) (by k_inst) (by k_is) (by k_is) (by k_is) (by exact PySem.F.type_list_append) (by exact Mine.shadow_dict (by k_get)) ?_; k_whole))) | fail "no")
  k_with "call builtin:list.append" => (first | ((k_here; (with_reducible show wpAny _ _ (call (Value.builtin _) [Value.ref _, _]) _ _ _); k_dflt (refine' Mine.append_accL (by k_asm) (by k_asm) (by k_asm) (by k_upd) (by k_mem) (by k_is) ?_ (by walk_at "mylen"); k_whole); intro h' F' N'; (try k_sweep))) | fail "no")
  k_with "getAttr ref" => (first | ((k_here; k_dflt (refine' Mine.get_ownL' (by k_asm) (by k_asm) (by k_inst) (by k_is) (by k_is) (by k_is) (by k_is) (by k_is) (by k_is) (by k_get) (by k_handed) ?_; k_whole))) | fail "no")
  k_with "mytups" => (first | (first | assumption | exact Mine.TupsAt.keeps (by assumption) (fun b o e _ => Fr.keep (by k_asm) b o e)) | fail "no")
  k_with "eval GeneratorExp" => (first | ((k_here; k_dflt (first | ((with_reducible show wpAny _ _ (eval (Expr.GeneratorExp (Expr.BinOp _ _ _ _) _ _ _) _) _ _ _); refine' Mine.gen_len_K (by k_asm) (by k_asm) (by k_asm) (by k_asm) (by exact rfl) (by exact rfl) (by exact rfl) (by exact rfl) (by exact rfl) (by ktr_room) (by k_mem) (by k_mem) (by (intro ps'; k_upd)) (by assumption) (by walk_at "mytups") (by assumption) ?_) | ((with_reducible show wpAny _ _ (eval (Expr.GeneratorExp (Expr.Call _ _ _ _) _ _ _) _) _ _ _); refine' Mine.gen_join_K (by exact rfl) (by k_asm) (by k_asm) (by k_asm) (by k_asm) (by exact rfl) (by exact rfl) (by exact rfl) (by exact rfl) (by exact rfl) (by ktr_room) (by k_mem) (by k_mem) (by (intro ps'; k_upd)) (by assumption) (by walk_at "mytups") (by assumption) ?_)); intro a' ps' h' gs' tk' lo' F' N' hps' hAB' hlo' hlo2' G'; (try dsimp only at N'))) | fail "no")
  k_with "call builtin:sum" => (first | ((k_here; k_dflt (refine' Mine.sum_len_K (by k_asm) (by k_asm) (by refine Mine.Gen.toks (by assumption) ?_; first | exact Nat.le_succ _ | exact Nat.le_refl _) (by exact (Mine.TupsAt.size (by assumption)).symm) (by assumption) (by assumption) ?_); intro h' gs' tk' t' F' N' hAB' hK')) | fail "no")
  k_with "call builtin:str.join" => (first | ((k_here; (with_reducible show wpAny _ _ (call (Value.builtin _) [Value.str _ _, Value.ref _]) _ _ _); k_dflt (refine' Mine.join_str_K (by k_asm) (by k_asm) (by refine Mine.Gen.toks (by assumption) ?_; first | exact Nat.le_succ _ | exact Nat.le_refl _) (by exact (Mine.TupsAt.size (by assumption)).symm) (by assumption) (by assumption) (by assumption) (by assumption) ?_); intro h' gs' tk' t' F' N' hAB' hK')) | fail "no")
  k_with "ksenter" => (first | ((refine' Mine.ks_codeR (by k_asm) (by k_asm) (by k_asm) (by k_asm) (by k_asm) (by exact rfl) (by exact rfl) (by assumption) (by k_is) (by k_is) (by ktr_room) (by first | exact BindsTo.of_eq rfl | exact binds_K (by k_in) rfl (by k_is) rfl rfl rfl) (by exact locs rfl) ?_ (by decide) (by exact rfl) (by exact rfl) (by exact rfl); intro g' L' h' hG' FG' F' N' B' X' T' l1; (try k_lt l1); (try dsimp only); (try k_lift B'); (try k_fold))) | fail "no")
  k_with "getMethod ref" => (first | ((k_here; k_dflt (refine' Mine.meth_len_K (by k_asm) (by k_asm) (by k_asm) (by k_mem) (by k_inst) (by k_is) (by k_is) (by ks_is) (by decide) (by first | exact Mine.ty_len | exact Mine.ty_pop | exact Mine.ty_init) (by first | exact Or.inl ⟨rfl, rfl⟩ | exact Or.inr ⟨rfl, rfl⟩) (by first | exact Mine.nc_len | exact Mine.nc_pop | exact Mine.nc_init) (by decide +kernel) ?_; intro q' h' F' N' l1; (try k_lt l1)))) | fail "no")
  k_with "callWith ref" => (first | ((k_here; k_dflt (refine' Mine.callWith_B (by k_asm) (by k_mem) (by first | exact Or.inl rfl | exact Or.inr rfl) ?_))) | fail "no")
  k_with "call ref" => (first | ((k_here; k_dflt (first | (refine' Mine.call_len_K (by k_asm) (by k_mem) (by k_mem) ?_; intro t' tk') | (refine' Mine.call_pop_K (by k_asm) (by k_asm) (by k_asm) (by k_mem) (by k_upd) (by k_mem) (by exact rfl) (by rfl) (by k_is) (by k_is) (by walk_at "mylen") ?_; intro h' F' N')))) | fail "no")
  k_with "newsx" => (first | (first | (intro _; exact News.nil) | (intro nx; refine' Mine.News.one nx (by k_mem) (by walk_at "newsx"))) | fail "no")
  k_with "news" => (first | (first | assumption | (refine' Mine.News.one (by assumption) (by k_mem) (by walk_at "newsx")) | (refine News.perm (by assumption) ?_; simp; done) | (refine News.perm (by assumption) ?_; intro p hp; simp only [List.mem_cons, List.not_mem_nil, or_false] at hp ⊢; rcases hp with rfl | hp <;> simp_all)) | fail "no")
  k_with "kb" => (first | (exact Mine.KB.fin (by assumption) (by assumption)) | fail "no")
  k_with "splitne" => (first | ((repeat ((with_reducible rename Mine.NeA _ _ ∧ _ => kc'); (first | (refine Mine.sp16 kc' ?_; intro _ _ _ _ _ _ _ _ _ _ _ _ _ _ _ _ _) | (refine Mine.sp8 kc' ?_; intro _ _ _ _ _ _ _ _ _) | (refine Mine.sp4 kc' ?_; intro _ _ _ _ _) | (refine Mine.sp2 kc' ?_; intro _ _ _) | (refine Mine.sp1 kc' ?_; intro _ _)); clear kc'))) | fail "no")
  k_with "upds" => (first | (first | exact Mine.Upds.nil | (refine' Mine.Upds.cons (by k_upd) (by walk_at "upds"))) | fail "no")
  k_with "mylens" => (first | (assumption) | fail "no")
  k_with "call ref" => (first | ((k_here; k_dflt ((first | with_reducible show wpAny _ _ (call (Value.ref 217) _) _ _ _ | with_reducible show wpAny _ _ (call (Value.ref (nat_lit 217)) _) _ _ _); refine' Mine.part_count_K _ _ _ _ _ _ _ _ _ _ _ _ _ _ _ _ _ _ _ _ _ _ _ _ _ _ _ (by k_asm) (by k_asm) (by k_asm) (by k_asm) (by first | assumption | exact rfl) (by (dsimp only [ktrTop, Around.deeper]; omega)) (by (dsimp only [ktrTop, Around.deeper]; omega)) (by k_asm) (by k_mem) (by k_mem) ?_); intro h' tk' t' F' N')) | fail "no")
  k_with "call ref" => (first | ((k_here; k_dflt ((first | with_reducible show wpAny _ _ (call (Value.ref 187) _) _ _ _ | with_reducible show wpAny _ _ (call (Value.ref (nat_lit 187)) _) _ _ _); refine' Mine.len_K _ _ _ _ _ _ _ _ _ _ _ _ _ _ _ _ _ _ _ _ _ _ _ _ _ _ _ _ _ _ (by k_asm) (by k_asm) (by k_asm) (by k_asm) (by first | assumption | exact rfl) (by (dsimp only [ktrTop, Around.deeper]; omega)) (by (dsimp only [ktrTop, Around.deeper]; omega)) (by k_asm) (by k_mem) (by k_mem) (by (intro ps'; walk_at "upds")) (by assumption) (by walk_at "mytups") (by walk_at "mylens") (by walk_at "mylen") ?_); intro ps' h' gs' tk' t' F' N' hps' hAB' hlb'; (try dsimp only at N'); (try (refine Mine.len_back (by assumption) ?_)))) | fail "no")
  k_with "call ref" => (first | ((k_here; k_dflt ((first | with_reducible show wpAny _ _ (call (Value.ref 194) _) _ _ _ | with_reducible show wpAny _ _ (call (Value.ref (nat_lit 194)) _) _ _ _); refine' Mine.str_K _ _ _ _ _ _ _ _ _ _ _ _ _ _ _ _ _ _ _ _ _ _ _ _ _ _ _ _ _ _ (by k_asm) (by k_asm) (by k_asm) (by k_asm) (by first | assumption | exact rfl) (by (dsimp only [ktrTop, Around.deeper]; omega)) (by (dsimp only [ktrTop, Around.deeper]; omega)) (by k_asm) (by k_mem) (by k_mem) (by (intro ps'; walk_at "upds")) (by assumption) (by walk_at "mytups") (by walk_at "mylens") (by walk_at "mylen") ?_); intro ps' h' gs' tk' t' F' N' hps' hAB' hTk'; (try dsimp only at N'); (try dsimp only [W.StrBack]))) | fail "no")
  k_with "call ref" => (first | ((k_here; k_dflt ((first | with_reducible show wpAny _ _ (call (Value.ref 164) _) _ _ _ | with_reducible show wpAny _ _ (call (Value.ref (nat_lit 164)) _) _ _ _); refine' Mine.push_K _ _ _ _ _ _ _ _ _ _ _ _ _ _ _ _ _ _ _ _ _ _ _ _ _ _ _ _ _ _ _ _ (by k_asm) (by k_asm) (by k_asm) (by k_asm) (by first | assumption | exact rfl) (by (dsimp only [ktrTop, Around.deeper]; omega)) (by (dsimp only [ktrTop, Around.deeper]; omega)) (by k_asm) (by k_mem) (by (intro tp'; walk_at "upds")) (by walk_at "mylen") ?_); intro tp' h' tk' F' N' hne'; (try dsimp only at N'); (replace hne' := Mine.allNe_of hne'; dsimp only [Mine.AllNe] at hne'; walk_at "splitne"))) | fail "no")
  k_with "subscriptTail Name Slice ref ref" => (first | ((k_here; (with_reducible show wpAny _ _ (subscriptTail _ (PySem.Expr.Slice _ _ none _) (Value.ref _) (Value.ref _)) _ _ _); k_dflt (refine' Mine.slice_K (by k_asm) (by k_asm) (by k_asm) (by k_mem) (by k_mem) (by k_is) (by k_is) (by k_is) (by kmk_part) (by kmk_part) (by walk_at "mylen") (by first | exact Mine.pick_from (by assumption) | exact rfl) ?_ (by with_unfolding_all rfl) (by kmk_pure)); intro D' h' F' N' l1; (try k_lt l1))) | fail "no")
  k_with "setItem ref ref" => (first | ((k_here; k_dflt (refine' Mine.setitem_K (by k_asm) (by k_asm) (by k_asm) (by kmk_list) (by (intro n'; k_upd)) (by k_mem) (by k_is) (by k_is) (by k_is) (by kmk_part) (by kmk_part) (by walk_at "mylen") (by first | walk_at "mylen" | (simp; done)) (by first | exact Mine.set_from (by assumption) | exact Mine.set_all | exact rfl) ?_); intro n' h' F' N'; (try dsimp only at N'))) | fail "no")
  k_with "setAttr ref" => (first | ((k_here; k_dflt (refine' Mine.set_dictL (by k_asm) (by k_asm) (by k_asm) (by k_inst) (by exact rfl) (by k_is) (by exact Mine.mro220 _) (by k_is) (by k_is) (by k_get) (by k_put) (by k_upd) (by exact Nat.le_of_ble_eq_true rfl) ?_; k_whole; intro h' F' N'; (try k_sweep)))) | fail "no")
  k_with "wpAt" => (first | (((with_reducible show _root_.PySem.wpAt _ _ _ (execs (_ :: _) _) _ _ _); refine ks_wpAt_execs_cons ?_)) | fail "no")
  k_with "wpAt" => (first | ((ks_step "eval Call"; k_dflt (refine ks_wpAt_MethodCall ?_))) | fail "no")
  k_with "truthy ref" => (first | ((k_here; k_dflt (refine' Mine.truthy_lenL (by k_in) (by k_inst) (by k_is) (by k_is) (by k_is) ?_; k_whole))) | fail "no")
  k_with "Exists" => (first | ((refine ⟨_, _, rfl, ?_⟩)) | fail "no")
  k_with "units" => (first | (first | k_units | (dsimp only [ktrTop, Around.deeper, Around.in1]; omega) | (simp only [ktrTop, Around.deeper, Around.in1, Around.under]; omega)) | fail "no")
  k_with "call type:str" => (first | ((k_here; (with_reducible show wpAny _ _ (call (Value.type "str") [Value.ref _]) _ _ _); k_dflt (refine' kso_call (by walk_at "units") (by k_in) (by k_inst) (by k_is) (by k_is) ?_; k_whole))) | fail "no")
  trivial
set_option maxHeartbeats 1000000 in
theorem reset_ok (w : World) {p : Program} {loose : List PySem.Str} {mean : ExcName → Option Value} {mg mb : PySem.Str → Option Value} (dp un : Nat) (gd : Option (List Code)) (cn : PySem.Str) (cs : Scope) (a : Addr) (ccd : Value) (cl : List (PySem.Str × Addr)) (outer : List Env) (A₀ : Around) (base h₀ : Heap) (L : Addr) (m : PySem.Str → Option Value) (s : Shared) (Q E : Value → Shared → Prop) (x dx : Addr) (its : Array Value) (n : Nat) (e1 : Int) (k1 t0 : Tok)
    (B : Below A₀ base outer h₀) (F : Fr h₀ L s.heap m) (X : (Mine.hd.heap_1 w.params).In h₀) (T : Top p loose mean mg mb h₀) (hk : cs.kind = .function) (hd : dp + 4 < recursionLimit) (hu : un + 8 < cLine)
    (N : News h₀ L s.heap [(x, accO dx its n), (dx, dictOf [⟨e1, .str (Str.ofString "_initial_size") k1, .int 0 t0⟩] 1)])
    (hne : @Ne Nat x dx) (hsz : its.size ≤ 1000)
    (hret : ∀ n' t' h' tk', Fr h₀ L h' m → News h₀ L h' [(x, accO dx #[] n'), (dx, dictOf [⟨e1, .str (Str.ofString "_initial_size") k1, .int 0 t'⟩] 1)] → KB [(x, accO dx its n), (dx, dictOf [⟨e1, .str (Str.ofString "_initial_size") k1, .int 0 t0⟩] 1)] s.heap h' → Q .none { s with heap := h', toks := tk' })
    : wpAny (model PySem.Challenge.rw_wn0105_01.row.prog w) (ktrTop dp un gd cn cs L a ccd cl outer) (call (.ref 202) [.ref x]) Q E s := by
  revert X; k_fill; intro X
  refine wpAny_call ?_
  k_dflt walk_at "myenter"
  k_steps
  exact hret _ _ _ _ (by k_asm) (by walk_at "news") (by walk_at "kb")
set_option maxHeartbeats 1000000 in
theorem reset2_ok (w : World) {p : Program} {loose : List PySem.Str} {mean : ExcName → Option Value} {mg mb : PySem.Str → Option Value} (dp un : Nat) (gd : Option (List Code)) (cn : PySem.Str) (cs : Scope) (a : Addr) (ccd : Value) (cl : List (PySem.Str × Addr)) (outer : List Env) (A₀ : Around) (base h₀ : Heap) (L : Addr) (m : PySem.Str → Option Value) (s : Shared) (Q E : Value → Shared → Prop) (x dx l : Addr) (its new : Array Value) (nl n : Nat) (e1 : Int) (k1 t0 : Tok)
    (B : Below A₀ base outer h₀) (F : Fr h₀ L s.heap m) (X : (Mine.hd.heap_1 w.params).In h₀) (T : Top p loose mean mg mb h₀) (hk : cs.kind = .function) (hd : dp + 4 < recursionLimit) (hu : un + 8 < cLine)
    (N : News h₀ L s.heap [(l, W.listOf new nl), (x, accO dx its n), (dx, dictOf [⟨e1, .str (Str.ofString "_initial_size") k1, .int 0 t0⟩] 1)])
    (hne : @Ne Nat x dx ∧ @Ne Nat l x ∧ @Ne Nat l dx) (hsz : its.size ≤ 1000) (hsz2 : new.size ≤ 1000)
    (hret : ∀ n' t' h' tk', Fr h₀ L h' m → News h₀ L h' [(l, W.listOf new nl), (x, accO dx new n'), (dx, dictOf [⟨e1, .str (Str.ofString "_initial_size") k1, .int 0 t'⟩] 1)] → KB [(l, W.listOf new nl), (x, accO dx its n), (dx, dictOf [⟨e1, .str (Str.ofString "_initial_size") k1, .int 0 t0⟩] 1)] s.heap h' → Q .none { s with heap := h', toks := tk' })
    : wpAny (model PySem.Challenge.rw_wn0105_01.row.prog w) (ktrTop dp un gd cn cs L a ccd cl outer) (call (.ref 202) [.ref x, .ref l]) Q E s := by
  obtain ⟨hne1, hne2, hne3⟩ := hne
  revert X; k_fill; intro X
  refine wpAny_call ?_
  k_dflt walk_at "myenter"
  k_steps
  exact hret _ _ _ _ (by k_asm) (by walk_at "news") (by walk_at "kb")
end Mine
end
section
open PySem PySem.W PyProof.Rows PySem.Calls PySem.Spec
set_option maxRecDepth 100000
namespace Mine
theorem pop_K (w : World) {p : Program} {loose : List PySem.Str} {mean : ExcName → Option Value} {mg mb : PySem.Str → Option Value} (dp un : Nat) (gd : Option (List Code)) (cn : PySem.Str) (cs : Scope) (a : Addr) (ccd : Value) (cl : List (PySem.Str × Addr)) (outer : List Env) (A₀ : Around) (base h₀ : Heap) (L : Addr) (m : PySem.Str → Option Value) (s : Shared) (Q E : Value → Shared → Prop) (x dx : Addr) (its : Array Value) (v : Value) (n n1 : Nat) (e1 : Int) (k1 t0 : Tok) (news news' : List (Addr × Obj))
    (B : Below A₀ base outer h₀) (F : Fr h₀ L s.heap m) (X : (Mine.hd.heap_1 w.params).In h₀) (T : Top p loose mean mg mb h₀) (hk : cs.kind = .function) (hd : dp + 4 < recursionLimit) (hu : un + 40 < cLine)
    (N : News h₀ L s.heap news) (U : Upds [(x, accO dx (its.push v) n)] [(x, accO dx its (n + 1))] news news') (hdx : (dx, dictOf [⟨e1, .str (Str.ofString "_initial_size") k1, .int 0 t0⟩] n1) ∈ news) (hsz : its.size ≤ 1000)
    (h : ∀ h' tk', Fr h₀ L h' m → News h₀ L h' news' → Q v { s with heap := h', toks := tk' })
    : wpAny (model PySem.Challenge.rw_wn0105_01.row.prog w) (ktrTop dp un gd cn cs L a ccd cl outer) (call (.ref 180) [.ref x]) Q E s := by
  have hx : (x, accO dx (its.push v) n) ∈ news := by cases U with | cons U _ => exact upd_here U
  have N2 := News.two N hx hdx
  refine pop_ok w dp un gd cn cs a ccd cl outer A₀ base h₀ L m s Q E x dx its v n n1 e1 k1 t0 B F X T hk hd hu N2 (ne_obj N hx hdx nofun) hsz fun h' tk' F' N' kb => h h' tk' F' (news_upds N N2 U kb N' (by simp) ?_)
  intro p hp hn
  simp only [List.mem_cons, List.not_mem_nil, or_false] at hp
  rcases hp with rfl | rfl
  · exact absurd (by simp) hn
  · simp

theorem pop_from_K (w : World) {p : Program} {loose : List PySem.Str} {mean : ExcName → Option Value} {mg mb : PySem.Str → Option Value} (dp un : Nat) (gd : Option (List Code)) (cn : PySem.Str) (cs : Scope) (a : Addr) (ccd : Value) (cl : List (PySem.Str × Addr)) (outer : List Env) (A₀ : Around) (base h₀ : Heap) (L : Addr) (m : PySem.Str → Option Value) (s : Shared) (Q E : Value → Shared → Prop) (x dx : Addr) (its : Array Value) (i : Nat) (ti : Tok) (n n1 : Nat) (e1 : Int) (k1 t0 : Tok) (news : List (Addr × Obj)) (news' : Nat → List (Addr × Obj))
    (B : Below A₀ base outer h₀) (F : Fr h₀ L s.heap m) (X : (Mine.hd.heap_1 w.params).In h₀) (T : Top p loose mean mg mb h₀) (hk : cs.kind = .function) (hd : dp + 4 < recursionLimit) (hu : un + 40 < cLine)
    (N : News h₀ L s.heap news) (U : ∀ n', Upds [(x, accO dx its n)] [(x, accO dx (its.extract 0 i) n')] news (news' n')) (hdx : (dx, dictOf [⟨e1, .str (Str.ofString "_initial_size") k1, .int 0 t0⟩] n1) ∈ news) (hsz : its.size ≤ 1000) (hi : i ≤ its.size)
    (h : ∀ D n' h' tk', Fr h₀ L h' m → News h₀ L h' ((D, W.listOf (its.extract i its.size) 0) :: news' n') → (∀ p ∈ news, p.1 ≠ D) → Q (.ref D) { s with heap := h', toks := tk' })
    : wpAny (model PySem.Challenge.rw_wn0105_01.row.prog w) (ktrTop dp un gd cn cs L a ccd cl outer) (call (.ref 172) [.ref x, .int i ti]) Q E s := by
  have hx : (x, accO dx its n) ∈ news := by cases U 0 with | cons U _ => exact upd_here U
  have N2 := News.two N hx hdx
  refine pop_from_ok w dp un gd cn cs a ccd cl outer A₀ base h₀ L m s Q E x dx its i ti n n1 e1 k1 t0 B F X T hk hd hu N2 (ne_obj N hx hdx nofun) hsz hi fun D n' h' tk' F' N' kb hf => h D n' h' tk' F' (fun p hp => ?_) (ne_fresh N hf)
  rcases List.mem_cons.mp hp with rfl | hp
  · exact N' _ (.head _)
  · refine news_upds N N2 (U n') kb N' (by simp) ?_ p hp
    intro p hp hn
    simp only [List.mem_cons, List.not_mem_nil, or_false] at hp
    rcases hp with rfl | rfl
    · exact absurd (by simp) hn
    · simp

theorem reset_K (w : World) {p : Program} {loose : List PySem.Str} {mean : ExcName → Option Value} {mg mb : PySem.Str → Option Value} (dp un : Nat) (gd : Option (List Code)) (cn : PySem.Str) (cs : Scope) (a : Addr) (ccd : Value) (cl : List (PySem.Str × Addr)) (outer : List Env) (A₀ : Around) (base h₀ : Heap) (L : Addr) (m : PySem.Str → Option Value) (s : Shared) (Q E : Value → Shared → Prop) (x dx : Addr) (its : Array Value) (n : Nat) (e1 : Int) (k1 t0 : Tok) (news : List (Addr × Obj)) (news' : Nat → Tok → List (Addr × Obj))
    (B : Below A₀ base outer h₀) (F : Fr h₀ L s.heap m) (X : (Mine.hd.heap_1 w.params).In h₀) (T : Top p loose mean mg mb h₀) (hk : cs.kind = .function) (hd : dp + 4 < recursionLimit) (hu : un + 40 < cLine)
    (N : News h₀ L s.heap news) (hdx : (dx, dictOf [⟨e1, .str (Str.ofString "_initial_size") k1, .int 0 t0⟩] 1) ∈ news) (U : ∀ n' t', Upds [(x, accO dx its n), (dx, dictOf [⟨e1, .str (Str.ofString "_initial_size") k1, .int 0 t0⟩] 1)] [(x, accO dx #[] n'), (dx, dictOf [⟨e1, .str (Str.ofString "_initial_size") k1, .int 0 t'⟩] 1)] news (news' n' t')) (hsz : its.size ≤ 1000)
    (h : ∀ n' t' h' tk', Fr h₀ L h' m → News h₀ L h' (news' n' t') → Q .none { s with heap := h', toks := tk' })
    : wpAny (model PySem.Challenge.rw_wn0105_01.row.prog w) (ktrTop dp un gd cn cs L a ccd cl outer) (call (.ref 202) [.ref x]) Q E s := by
  have hx : (x, accO dx its n) ∈ news := by cases U 0 0 with | cons U _ => exact upd_here U
  have N2 := News.two N hx hdx
  refine reset_ok w dp un gd cn cs a ccd cl outer A₀ base h₀ L m s Q E x dx its n e1 k1 t0 B F X T hk hd (by omega) N2 (ne_obj N hx hdx nofun) hsz fun n' t' h' tk' F' N' kb => h n' t' h' tk' F' (news_upds N N2 (U n' t') kb N' (by simp) ?_)
  intro p hp hn
  simp only [List.mem_cons, List.not_mem_nil, or_false] at hp
  rcases hp with rfl | rfl
  · exact absurd (by simp) hn
  · exact absurd (by simp) hn

theorem reset2_K (w : World) {p : Program} {loose : List PySem.Str} {mean : ExcName → Option Value} {mg mb : PySem.Str → Option Value} (dp un : Nat) (gd : Option (List Code)) (cn : PySem.Str) (cs : Scope) (a : Addr) (ccd : Value) (cl : List (PySem.Str × Addr)) (outer : List Env) (A₀ : Around) (base h₀ : Heap) (L : Addr) (m : PySem.Str → Option Value) (s : Shared) (Q E : Value → Shared → Prop) (x dx l : Addr) (its new : Array Value) (nl n : Nat) (e1 : Int) (k1 t0 : Tok) (news : List (Addr × Obj)) (news' : Nat → Tok → List (Addr × Obj))
    (B : Below A₀ base outer h₀) (F : Fr h₀ L s.heap m) (X : (Mine.hd.heap_1 w.params).In h₀) (T : Top p loose mean mg mb h₀) (hk : cs.kind = .function) (hd : dp + 4 < recursionLimit) (hu : un + 40 < cLine)
    (N : News h₀ L s.heap news) (hl : (l, W.listOf new nl) ∈ news) (hdx : (dx, dictOf [⟨e1, .str (Str.ofString "_initial_size") k1, .int 0 t0⟩] 1) ∈ news) (U : ∀ n' t', Upds [(x, accO dx its n), (dx, dictOf [⟨e1, .str (Str.ofString "_initial_size") k1, .int 0 t0⟩] 1)] [(x, accO dx new n'), (dx, dictOf [⟨e1, .str (Str.ofString "_initial_size") k1, .int 0 t'⟩] 1)] news (news' n' t')) (hsz : its.size ≤ 1000) (hsz2 : new.size ≤ 1000)
    (h : ∀ n' t' h' tk', Fr h₀ L h' m → News h₀ L h' (news' n' t') → Q .none { s with heap := h', toks := tk' })
    : wpAny (model PySem.Challenge.rw_wn0105_01.row.prog w) (ktrTop dp un gd cn cs L a ccd cl outer) (call (.ref 202) [.ref x, .ref l]) Q E s := by
  have hx : (x, accO dx its n) ∈ news := by cases U 0 0 with | cons U _ => exact upd_here U
  have N3 := News.three N hl hx hdx
  refine reset2_ok w dp un gd cn cs a ccd cl outer A₀ base h₀ L m s Q E x dx l its new nl n e1 k1 t0 B F X T hk hd (by omega) N3 ⟨ne_obj N hx hdx nofun, ne_obj N hl hx nofun, ne_obj N hl hdx (by intro hc; injection hc with hc; exact absurd hc (by decide))⟩ hsz hsz2 fun n' t' h' tk' F' N' kb => h n' t' h' tk' F' (news_upds N N3 (U n' t') kb N' (by simp) ?_)
  intro p hp hn
  simp only [List.mem_cons, List.not_mem_nil, or_false] at hp
  rcases hp with rfl | rfl | rfl
  · simp
  · exact absurd (by simp) hn
  · exact absurd (by simp) hn
end Mine
end
section
open PySem PySem.W PyProof.Rows PySem.Calls PySem.Spec
set_option maxRecDepth 100000
namespace Mine
local macro_rules | `(tactic| k_mem) => `(tactic| assumption)
local macro_rules | `(tactic| k_inst) => `(tactic| (refine' Mine.InstAt.ofAcc ?N ?h1 ?h2; (case N => k_asm); (case h1 => k_mem); (case h2 => k_mem)))
local macro_rules | `(tactic| k_ne) => `(tactic| (refine neN ?_; (try dsimp only); first | exact Mine.NeA.ne (by with_reducible assumption) | exact Mine.NeA.ne' (by with_reducible assumption) | omega))
local macro_rules | `(tactic| walk_at $s:str) => `(tactic| k_extra $s)
theorem words_C4 : True := by
  k_with_none
  w_top off
  k_with "myenter" => (first | ((refine' Mine.enterR (by k_asm) (by k_asm) (by k_asm) (by k_asm) (by k_asm) (by exact rfl) (by exact rfl) (by assumption) (by k_is) (by k_is) (by ktr_room) (by first | exact BindsTo.of_eq rfl | exact binds_K (by k_in) rfl (by k_is) rfl rfl rfl) (by exact locs rfl) ?_ (by exact rfl) (by exact rfl) (by exact rfl) (by decide); k_whole; intro g' L' h' hG' FG' F' N' B' X' T' l1; (try k_lt l1); (try dsimp only); (try k_lift B'); (try k_fold))) | fail "no")
  k_with "mylen" => (first | (first | omega | (simp only [PySem.Str.length_append, PySem.sizeLine_eq] at *; omega)) | fail "no")
  k_with "getMethod ref" => (first | ((k_here; k_dflt (first | refine' Mine.method_fnL (by k_in) (by k_inst) (by k_is) (by k_is) (by k_is) (by k_is) (by exact Mine.shadow_dict (by k_get)) ?_; k_whole | refine' Mine.method_biL (by k_in) (by k_inst) (by k_is) (by k_is) (by k_is) (by exact PySem.F.type_list_append) (by exact Mine.shadow_dict (by k_get)) ?_; k_whole))) | fail "no")
  k_with "call builtin:list.append" => (first | ((k_here; (with_reducible show wpAny _ _ (call (Value.builtin _) [Value.ref _, _]) _ _ _); k_dflt (refine' Mine.append_accL (by k_asm) (by k_asm) (by k_asm) (by k_upd) (by k_mem) (by k_is) ?_ (by walk_at "mylen"); k_whole); intro h' F' N'; (try k_sweep))) | fail "no")
  k_with "getAttr ref" => (first | ((k_here; k_dflt (refine' Mine.get_ownL' (by k_asm) (by k_asm) (by k_inst) (by k_is) (by k_is) (by k_is) (by k_is) (by k_is) (by k_is) (by k_get) (by k_handed) ?_; k_whole))) | fail "no")
  k_with "mytups" => (first | (first | assumption | exact Mine.TupsAt.keeps (by assumption) (fun b o e _ => Fr.keep (by k_asm) b o e)) | fail "no")
  k_with "eval GeneratorExp" => (first | ((k_here; k_dflt (first | ((with_reducible show wpAny _ _ (eval (Expr.GeneratorExp (Expr.BinOp _ _ _ _) _ _ _) _) _ _ _); refine' Mine.gen_len_K (by k_asm) (by k_asm) (by k_asm) (by k_asm) (by exact rfl) (by exact rfl) (by exact rfl) (by exact rfl) (by exact rfl) (by ktr_room) (by k_mem) (by k_mem) (by (intro ps'; k_upd)) (by assumption) (by walk_at "mytups") (by assumption) ?_) | ((with_reducible show wpAny _ _ (eval (Expr.GeneratorExp (Expr.Call _ _ _ _) _ _ _) _) _ _ _); refine' Mine.gen_join_K (by exact rfl) (by k_asm) (by k_asm) (by k_asm) (by k_asm) (by exact rfl) (by exact rfl) (by exact rfl) (by exact rfl) (by exact rfl) (by ktr_room) (by k_mem) (by k_mem) (by (intro ps'; k_upd)) (by assumption) (by walk_at "mytups") (by assumption) ?_)); intro a' ps' h' gs' tk' lo' F' N' hps' hAB' hlo' hlo2' G'; (try dsimp only at N'))) | fail "no")
  k_with "call builtin:sum" => (first | ((k_here; k_dflt (refine' Mine.sum_len_K (by k_asm) (by k_asm) (by refine Mine.Gen.toks (by assumption) ?_; first | exact Nat.le_succ _ | exact Nat.le_refl _) (by exact (Mine.TupsAt.size (by assumption)).symm) (by assumption) (by assumption) ?_); intro h' gs' tk' t' F' N' hAB' hK')) | fail "no")
  k_with "call builtin:str.join" => (first | ((k_here; (with_reducible show wpAny _ _ (call (Value.builtin _) [Value.str _ _, Value.ref _]) _ _ _); k_dflt (refine' Mine.join_str_K (by k_asm) (by k_asm) (by refine Mine.Gen.toks (by assumption) ?_; first | exact Nat.le_succ _ | exact Nat.le_refl _) (by exact (Mine.TupsAt.size (by assumption)).symm) (by assumption) (by assumption) (by assumption) (by assumption) ?_); intro h' gs' tk' t' F' N' hAB' hK')) | fail "no")
  k_with "ksenter" => (first | ((refine' Mine.ks_codeR (by k_asm) (by k_asm) (by k_asm) (by k_asm) (by k_asm) (by exact rfl) (by exact rfl) (by assumption) (by k_is) (by k_is) (by ktr_room) (by first | exact BindsTo.of_eq rfl | exact binds_K (by k_in) rfl (by k_is) rfl rfl rfl) (by exact locs rfl) ?_ (by decide) (by exact rfl) (by exact rfl) (by exact rfl); intro g' L' h' hG' FG' F' N' B' X' T' l1; (try k_lt l1); (try dsimp only); (try k_lift B'); (try k_fold))) | fail "no")
  k_with "getMethod ref" => (first | ((k_here; k_dflt (refine' Mine.meth_len_K (by k_asm) (by k_asm) (by k_asm) (by k_mem) (by k_inst) (by k_is) (by k_is) (by ks_is) (by decide) (by first | exact Mine.ty_len | exact Mine.ty_pop | exact Mine.ty_init) (by first | exact Or.inl ⟨rfl, rfl⟩ | exact Or.inr ⟨rfl, rfl⟩) (by first | exact Mine.nc_len | exact Mine.nc_pop | exact Mine.nc_init) (by decide +kernel) ?_; intro q' h' F' N' l1; (try k_lt l1)))) | fail "no")
  k_with "callWith ref" => (first | ((k_here; k_dflt (refine' Mine.callWith_B (by k_asm) (by k_mem) (by first | exact Or.inl rfl | exact Or.inr rfl) ?_))) | fail "no")
  k_with "call ref" => (first | ((k_here; k_dflt (first | (refine' Mine.call_len_K (by k_asm) (by k_mem) (by k_mem) ?_; intro t' tk') | (refine' Mine.call_pop_K (by k_asm) (by k_asm) (by k_asm) (by k_mem) (by k_upd) (by k_mem) (by exact rfl) (by rfl) (by k_is) (by k_is) (by walk_at "mylen") ?_; intro h' F' N')))) | fail "no")
  k_with "newsx" => (first | (first | (intro _; exact News.nil) | (intro nx; refine' Mine.News.one nx (by k_mem) (by walk_at "newsx"))) | fail "no")
  k_with "news" => (first | (first | assumption | (refine' Mine.News.one (by assumption) (by k_mem) (by walk_at "newsx")) | (refine News.perm (by assumption) ?_; simp; done) | (refine News.perm (by assumption) ?_; intro p hp; simp only [List.mem_cons, List.not_mem_nil, or_false] at hp ⊢; rcases hp with rfl | hp <;> simp_all)) | fail "no")
  k_with "kb" => (first | (exact Mine.KB.fin (by assumption) (by assumption)) | fail "no")
  k_with "splitne" => (first | ((repeat ((with_reducible rename Mine.NeA _ _ ∧ _ => kc'); (first | (refine Mine.sp16 kc' ?_; intro _ _ _ _ _ _ _ _ _ _ _ _ _ _ _ _ _) | (refine Mine.sp8 kc' ?_; intro _ _ _ _ _ _ _ _ _) | (refine Mine.sp4 kc' ?_; intro _ _ _ _ _) | (refine Mine.sp2 kc' ?_; intro _ _ _) | (refine Mine.sp1 kc' ?_; intro _ _)); clear kc'))) | fail "no")
  k_with "upds" => (first | (first | exact Mine.Upds.nil | (refine' Mine.Upds.cons (by k_upd) (by walk_at "upds"))) | fail "no")
  k_with "mylens" => (first | (assumption) | fail "no")
  k_with "call ref" => (first | ((k_here; k_dflt ((first | with_reducible show wpAny _ _ (call (Value.ref 217) _) _ _ _ | with_reducible show wpAny _ _ (call (Value.ref (nat_lit 217)) _) _ _ _); refine' Mine.part_count_K _ _ _ _ _ _ _ _ _ _ _ _ _ _ _ _ _ _ _ _ _ _ _ _ _ _ _ (by k_asm) (by k_asm) (by k_asm) (by k_asm) (by first | assumption | exact rfl) (by (dsimp only [ktrTop, Around.deeper]; omega)) (by (dsimp only [ktrTop, Around.deeper]; omega)) (by k_asm) (by k_mem) (by k_mem) ?_); intro h' tk' t' F' N')) | fail "no")
  k_with "call ref" => (first | ((k_here; k_dflt ((first | with_reducible show wpAny _ _ (call (Value.ref 187) _) _ _ _ | with_reducible show wpAny _ _ (call (Value.ref (nat_lit 187)) _) _ _ _); refine' Mine.len_K _ _ _ _ _ _ _ _ _ _ _ _ _ _ _ _ _ _ _ _ _ _ _ _ _ _ _ _ _ _ (by k_asm) (by k_asm) (by k_asm) (by k_asm) (by first | assumption | exact rfl) (by (dsimp only [ktrTop, Around.deeper]; omega)) (by (dsimp only [ktrTop, Around.deeper]; omega)) (by k_asm) (by k_mem) (by k_mem) (by (intro ps'; walk_at "upds")) (by assumption) (by walk_at "mytups") (by walk_at "mylens") (by walk_at "mylen") ?_); intro ps' h' gs' tk' t' F' N' hps' hAB' hlb'; (try dsimp only at N'); (try (refine Mine.len_back (by assumption) ?_)))) | fail "no")
  k_with "call ref" => (first | ((k_here; k_dflt ((first | with_reducible show wpAny _ _ (call (Value.ref 194) _) _ _ _ | with_reducible show wpAny _ _ (call (Value.ref (nat_lit 194)) _) _ _ _); refine' Mine.str_K _ _ _ _ _ _ _ _ _ _ _ _ _ _ _ _ _ _ _ _ _ _ _ _ _ _ _ _ _ _ (by k_asm) (by k_asm) (by k_asm) (by k_asm) (by first | assumption | exact rfl) (by (dsimp only [ktrTop, Around.deeper]; omega)) (by (dsimp only [ktrTop, Around.deeper]; omega)) (by k_asm) (by k_mem) (by k_mem) (by (intro ps'; walk_at "upds")) (by assumption) (by walk_at "mytups") (by walk_at "mylens") (by walk_at "mylen") ?_); intro ps' h' gs' tk' t' F' N' hps' hAB' hTk'; (try dsimp only at N'); (try dsimp only [W.StrBack]))) | fail "no")
  k_with "call ref" => (first | ((k_here; k_dflt ((first | with_reducible show wpAny _ _ (call (Value.ref 164) _) _ _ _ | with_reducible show wpAny _ _ (call (Value.ref (nat_lit 164)) _) _ _ _); refine' Mine.push_K _ _ _ _ _ _ _ _ _ _ _ _ _ _ _ _ _ _ _ _ _ _ _ _ _ _ _ _ _ _ _ _ (by k_asm) (by k_asm) (by k_asm) (by k_asm) (by first | assumption | exact rfl) (by (dsimp only [ktrTop, Around.deeper]; omega)) (by (dsimp only [ktrTop, Around.deeper]; omega)) (by k_asm) (by k_mem) (by (intro tp'; walk_at "upds")) (by walk_at "mylen") ?_); intro tp' h' tk' F' N' hne'; (try dsimp only at N'); (replace hne' := Mine.allNe_of hne'; dsimp only [Mine.AllNe] at hne'; walk_at "splitne"))) | fail "no")
  k_with "subscriptTail Name Slice ref ref" => (first | ((k_here; (with_reducible show wpAny _ _ (subscriptTail _ (PySem.Expr.Slice _ _ none _) (Value.ref _) (Value.ref _)) _ _ _); k_dflt (refine' Mine.slice_K (by k_asm) (by k_asm) (by k_asm) (by k_mem) (by k_mem) (by k_is) (by k_is) (by k_is) (by kmk_part) (by kmk_part) (by walk_at "mylen") (by first | exact Mine.pick_from (by assumption) | exact rfl) ?_ (by with_unfolding_all rfl) (by kmk_pure)); intro D' h' F' N' l1; (try k_lt l1))) | fail "no")
  k_with "setItem ref ref" => (first | ((k_here; k_dflt (refine' Mine.setitem_K (by k_asm) (by k_asm) (by k_asm) (by kmk_list) (by (intro n'; k_upd)) (by k_mem) (by k_is) (by k_is) (by k_is) (by kmk_part) (by kmk_part) (by walk_at "mylen") (by first | walk_at "mylen" | (simp; done)) (by first | exact Mine.set_from (by assumption) | exact Mine.set_all | exact rfl) ?_); intro n' h' F' N'; (try dsimp only at N'))) | fail "no")
  k_with "setAttr ref" => (first | ((k_here; k_dflt (refine' Mine.set_dictL (by k_asm) (by k_asm) (by k_asm) (by k_inst) (by exact rfl) (by k_is) (by exact Mine.mro220 _) (by k_is) (by k_is) (by k_get) (by k_put) (by k_upd) (by exact Nat.le_of_ble_eq_true rfl) ?_; k_whole; intro h' F' N'; (try k_sweep)))) | fail "no")
  k_with "wpAt" => (first | (((with_reducible show _root_.PySem.wpAt _ _ _ (execs (_ :: _) _) _ _ _); refine ks_wpAt_execs_cons ?_)) | fail "no")
  k_with "wpAt" => (first | ((ks_step "eval Call"; k_dflt (refine ks_wpAt_MethodCall ?_))) | fail "no")
  k_with "truthy ref" => (first | ((k_here; k_dflt (refine' Mine.truthy_lenL (by k_in) (by k_inst) (by k_is) (by k_is) (by k_is) ?_; k_whole))) | fail "no")
  k_with "Exists" => (first | ((refine ⟨_, _, rfl, ?_⟩)) | fail "no")
  k_with "units" => (first | (first | k_units | (dsimp only [ktrTop, Around.deeper, Around.in1]; omega) | (simp only [ktrTop, Around.deeper, Around.in1, Around.under]; omega)) | fail "no")
  k_with "call type:str" => (first | ((k_here; (with_reducible show wpAny _ _ (call (Value.type "str") [Value.ref _]) _ _ _); k_dflt (refine' kso_call (by walk_at "units") (by k_in) (by k_inst) (by k_is) (by k_is) ?_; k_whole))) | fail "no")
  k_with "call ref" => (first | ((k_here; k_dflt ((first | with_reducible show wpAny _ _ (call (Value.ref 180) _) _ _ _ | with_reducible show wpAny _ _ (call (Value.ref (nat_lit 180)) _) _ _ _); refine' Mine.pop_K _ _ _ _ _ _ _ _ _ _ _ _ _ _ _ _ _ _ _ _ _ _ _ _ _ _ _ _ _ (by k_asm) (by k_asm) (by k_asm) (by k_asm) (by first | assumption | exact rfl) (by (dsimp only [ktrTop, Around.deeper]; omega)) (by (dsimp only [ktrTop, Around.deeper]; omega)) (by k_asm) (by walk_at "upds") (by k_mem) (by walk_at "mylen") ?_); intro h' tk' F' N'; (try dsimp only at N'))) | fail "no")
  k_with "call ref" => (first | ((k_here; k_dflt ((first | with_reducible show wpAny _ _ (call (Value.ref 172) _) _ _ _ | with_reducible show wpAny _ _ (call (Value.ref (nat_lit 172)) _) _ _ _); refine' Mine.pop_from_K _ _ _ _ _ _ _ _ _ _ _ _ _ _ _ _ _ _ _ _ _ _ _ _ _ _ _ _ _ _ (by k_asm) (by k_asm) (by k_asm) (by k_asm) (by first | assumption | exact rfl) (by (dsimp only [ktrTop, Around.deeper]; omega)) (by (dsimp only [ktrTop, Around.deeper]; omega)) (by k_asm) (by (intro n'; walk_at "upds")) (by k_mem) (by walk_at "mylen") (by walk_at "mylen") ?_); intro D' n' h' tk' F' N' hne'; (try dsimp only at N'); (replace hne' := Mine.allNe_of hne'; dsimp only [Mine.AllNe] at hne'; walk_at "splitne"))) | fail "no")
  k_with "call ref" => (first | ((k_here; k_dflt ((first | with_reducible show wpAny _ _ (call (Value.ref 202) _) _ _ _ | with_reducible show wpAny _ _ (call (Value.ref (nat_lit 202)) _) _ _ _); refine' Mine.reset_K _ _ _ _ _ _ _ _ _ _ _ _ _ _ _ _ _ _ _ _ _ _ _ _ _ _ _ (by k_asm) (by k_asm) (by k_asm) (by k_asm) (by first | assumption | exact rfl) (by (dsimp only [ktrTop, Around.deeper]; omega)) (by (dsimp only [ktrTop, Around.deeper]; omega)) (by k_asm) (by k_mem) (by (intro n' t'; walk_at "upds")) (by walk_at "mylen") ?_); intro n' t' h' tk' F' N'; (try dsimp only at N'))) | fail "no")
  k_with "call ref" => (first | ((k_here; k_dflt ((first | with_reducible show wpAny _ _ (call (Value.ref 202) _) _ _ _ | with_reducible show wpAny _ _ (call (Value.ref (nat_lit 202)) _) _ _ _); refine' Mine.reset2_K _ _ _ _ _ _ _ _ _ _ _ _ _ _ _ _ _ _ _ _ _ _ _ _ _ _ _ _ _ _ (by k_asm) (by k_asm) (by k_asm) (by k_asm) (by first | assumption | exact rfl) (by (dsimp only [ktrTop, Around.deeper]; omega)) (by (dsimp only [ktrTop, Around.deeper]; omega)) (by k_asm) (by k_mem) (by k_mem) (by (intro n' t'; walk_at "upds")) (by walk_at "mylen") (by first | exact Nat.le_of_ble_eq_true rfl | walk_at "mylen") ?_); intro n' t' h' tk' F' N'; (try dsimp only at N'))) | fail "no")
  trivial
set_option maxHeartbeats 1000000 in
theorem onlyws_ok (w : World) {p : Program} {loose : List PySem.Str} {mean : ExcName → Option Value} {mg mb : PySem.Str → Option Value} (dp un : Nat) (gd : Option (List Code)) (cn : PySem.Str) (cs : Scope) (a : Addr) (ccd : Value) (cl : List (PySem.Str × Addr)) (outer : List Env) (A₀ : Around) (base h₀ : Heap) (L : Addr) (m : PySem.Str → Option Value) (s : Shared) (Q E : Value → Shared → Prop) (x dx : Addr) (its : Array Value) (n : Nat) (e1 : Int) (k1 t0 : Tok) (p2 p9 : Array Value) (ws : List PySem.Str)
    (B : Below A₀ base outer h₀) (F : Fr h₀ L s.heap m) (X : (Mine.hd.heap_1 w.params).In h₀) (T : Top p loose mean mg mb h₀) (hk : cs.kind = .function) (hd : dp + 6 < recursionLimit) (hu : un + 60 < cLine)
    (N : News h₀ L s.heap [(x, accO dx its n), (dx, dictOf [⟨e1, .str (Str.ofString "_initial_size") k1, .int 0 t0⟩] 1), (182, tabObj p2), (189, tabObj p9)])
    (hne : @Ne Nat x dx ∧ @Ne Nat x 182 ∧ @Ne Nat dx 182 ∧ @Ne Nat x 189 ∧ @Ne Nat dx 189) (hsz : its.size ≤ 1000)
    (hp2 : psOk pos132 p2) (hp9 : psOk pos135 p9) (hT : TupsAt s.heap its ws) (hl : ∀ v ∈ ws, v.length ≤ 1000) (hpos : lenW ws ≠ 0) (hsp : Txt.isspace (txt ws) = false)
    (hret : ∀ p2' p9' h' gs tk', Fr h₀ L h' m → News h₀ L h' [(x, accO dx its n), (dx, dictOf [⟨e1, .str (Str.ofString "_initial_size") k1, .int 0 t0⟩] 1), (182, tabObj p2'), (189, tabObj p9')] → psOk pos132 p2' → psOk pos135 p9' → (AllBare s.gens → AllBare gs) →
      KB [(x, accO dx its n), (dx, dictOf [⟨e1, .str (Str.ofString "_initial_size") k1, .int 0 t0⟩] 1), (182, tabObj p2), (189, tabObj p9)] s.heap h' → Q (.bool false) { s with heap := h', gens := gs, toks := tk' })
    : wpAny (model PySem.Challenge.rw_wn0105_01.row.prog w) (ktrTop dp un gd cn cs L a ccd cl outer) (call (.ref 209) [.ref x]) Q E s := by
  obtain ⟨hne1, hne2, hne3, hne4, hne5⟩ := hne
  revert X; k_fill; intro X
  refine wpAny_call ?_
  k_dflt walk_at "myenter"
  (have hTg := TupsAt.kb hT N (by assumption) (by simp))
  k_steps
  all_goals first | rw [hsp] | rw [show (!(lenW ws != 0)) = false from by simp [hpos]]
  all_goals exact hret _ _ _ _ _ (by k_asm) (by walk_at "news") (by assumption) (by assumption) (by intro hx; solve_by_elim) (by walk_at "kb")
end Mine
end
section
open PySem PySem.W PyProof.Rows PySem.Calls PySem.Spec
set_option maxRecDepth 100000
namespace Mine
theorem News.four {h₀ h : Heap} {L : Addr} {p q r t : Addr × Obj} {news : List (Addr × Obj)} (N : News h₀ L h news) (h1 : p ∈ news) (h2 : q ∈ news) (h3 : r ∈ news) (h4 : t ∈ news) : News h₀ L h [p, q, r, t] := fun z hz => by
  rcases List.mem_cons.mp hz with rfl | hz
  · exact N _ h1
  · exact News.three N h2 h3 h4 z hz
theorem onlyws_K (w : World) {p : Program} {loose : List PySem.Str} {mean : ExcName → Option Value} {mg mb : PySem.Str → Option Value} (dp un : Nat) (gd : Option (List Code)) (cn : PySem.Str) (cs : Scope) (a : Addr) (ccd : Value) (cl : List (PySem.Str × Addr)) (outer : List Env) (A₀ : Around) (base h₀ : Heap) (L : Addr) (m : PySem.Str → Option Value) (s : Shared) (Q E : Value → Shared → Prop) (x dx : Addr) (its : Array Value) (n : Nat) (e1 : Int) (k1 t0 : Tok) (p2 p9 : Array Value) (ws : List PySem.Str) (news : List (Addr × Obj)) (news' : Array Value → Array Value → List (Addr × Obj))
    (B : Below A₀ base outer h₀) (F : Fr h₀ L s.heap m) (X : (Mine.hd.heap_1 w.params).In h₀) (T : Top p loose mean mg mb h₀) (hk : cs.kind = .function) (hd : dp + 6 < recursionLimit) (hu : un + 60 < cLine)
    (N : News h₀ L s.heap news) (hx : (x, accO dx its n) ∈ news) (hdx : (dx, dictOf [⟨e1, .str (Str.ofString "_initial_size") k1, .int 0 t0⟩] 1) ∈ news) (h2 : (182, tabObj p2) ∈ news) (h9 : (189, tabObj p9) ∈ news) (U : ∀ p2' p9', Upds [(182, tabObj p2), (189, tabObj p9)] [(182, tabObj p2'), (189, tabObj p9')] news (news' p2' p9'))
    (hsz : its.size ≤ 1000) (hp2 : psOk pos132 p2) (hp9 : psOk pos135 p9) (hT : TupsAt s.heap its ws) (hl : ∀ v ∈ ws, v.length ≤ 1000) (hpos : lenW ws ≠ 0) (hsp : Txt.isspace (txt ws) = false)
    (h : ∀ p2' p9' h' gs tk', Fr h₀ L h' m → News h₀ L h' (news' p2' p9') → psOk pos132 p2' → psOk pos135 p9' → (AllBare s.gens → AllBare gs) → Q (.bool false) { s with heap := h', gens := gs, toks := tk' })
    : wpAny (model PySem.Challenge.rw_wn0105_01.row.prog w) (ktrTop dp un gd cn cs L a ccd cl outer) (call (.ref 209) [.ref x]) Q E s := by
  have N4 := News.four N hx hdx h2 h9
  refine onlyws_ok w dp un gd cn cs a ccd cl outer A₀ base h₀ L m s Q E x dx its n e1 k1 t0 p2 p9 ws B F X T hk hd hu N4 ⟨ne_obj N hx hdx nofun, ne_obj N hx h2 nofun, ne_obj N hdx h2 nofun, ne_obj N hx h9 nofun, ne_obj N hdx h9 nofun⟩ hsz hp2 hp9 hT hl hpos hsp
    fun p2' p9' h' gs tk' F' N' q2 q9 hb kb => h p2' p9' h' gs tk' F' (news_upds N N4 (U p2' p9') kb N' (by simp) ?_) q2 q9 hb
  intro p hp hn
  simp only [List.mem_cons, List.not_mem_nil, or_false] at hp
  rcases hp with rfl | rfl | rfl | rfl
  · simp
  · simp
  · exact absurd (by simp) hn
  · exact absurd (by simp) hn
end Mine
end
section
open PySem PySem.W PyProof.Rows PySem.Calls PySem.Spec
set_option maxRecDepth 100000
namespace Mine
def isFuncIn (K : Frag) (f : Addr) : Bool := match K.lookup f with | some ⟨_, _, .func _, _⟩ => true | _ => false
theorem func164 (P : Params) : isFuncIn (Mine.hd.heap_1 P) 164 = true := by kernel_rfl
section
variable {prog : Program} {w : World} {A : Around} {E : Value → Shared → Prop} {s : Shared} {T T2 : Addr} {a b c d : PySem.Str} {ta tb tc td : Tok}
theorem tup_ne {Q : Value → Shared → Prop} (h1 : s.heap.IsTuple T #[.str a ta, .str b tb]) (h2 : s.heap.IsTuple T2 #[.str c tc, .str d td]) (hb : (b == d) = false) (o1' : PyData.strOk a = true) (o2' : PyData.strOk b = true) (o3' : PyData.strOk c = true) (o4' : PyData.strOk d = true) (hu : A.units + 64 < cLine) (h : Q (.bool true) s) :
    wpAny (model prog w) A (compareOp .NotEq (.ref T) (.ref T2)) Q E s := by
  obtain ⟨o1, e1, c1, n1, d1⟩ := h1
  obtain ⟨o2, e2, c2, n2, d2⟩ := h2
  refine ne_dataH (reads_tuple_at e1 c1 d1 (ReadsAll.cons (Reads.str _ _) (ReadsAll.cons (Reads.str _ _) ReadsAll.nil))) (reads_tuple_at e2 c2 d2 (ReadsAll.cons (Reads.str _ _) (ReadsAll.cons (Reads.str _ _) ReadsAll.nil))) (by simp [SeqAt.shaped, PyData.canLay0, PyData.canLayAll0, PyData.depth, PyData.depthAll, o1', o2']) (by simp [SeqAt.shaped, PyData.canLay0, PyData.canLayAll0, PyData.depth, PyData.depthAll, o3', o4']) hu ?_
  have e : PyData.eqv (.tuple [.str a, .str b]) (.tuple [.str c, .str d]) = false := by
    simp only [PyData.eqv, PyData.eqvAll]
    simp [hb]
  rw [e]
  exact h
end
theorem isTup_kb {h₀ h g : Heap} {L : Addr} {E : List (Addr × Obj)} {T : Addr} {its : Array Value} (x : h.IsTuple T its) (N : News h₀ L h E) (k : KB E h g) (hE : ∀ p ∈ E, p.2.cls ≠ .type "tuple") : g.IsTuple T its :=
  let ⟨o, e, hc, r⟩ := x
  ⟨o, Tk.of N k hE _ _ e hc, hc, r⟩
theorem isTup_fr {h₀ h : Heap} {L : Addr} {m : PySem.Str → Option Value} {T : Addr} {its : Array Value} (x : h₀.IsTuple T its) (F : Fr h₀ L h m) : h.IsTuple T its :=
  let ⟨o, e, r⟩ := x
  ⟨o, F.keep _ _ e, r⟩
theorem isTup_news {h₀ h : Heap} {L : Addr} {news : List (Addr × Obj)} {T : Addr} {its : Array Value} (N : News h₀ L h news) (hm : (T, { cls := .type "tuple", data := .seq its }) ∈ news) : h.IsTuple T its := ⟨_, (N _ hm).1, rfl, _, rfl⟩
section
variable {prog : Program} {w : World} {M : Model} {A : Around} {E : Value → Shared → Prop} {s : Shared} {K : Frag} {x f L q T : Addr} {ox : Obj} {h₀ : Heap} {m : PySem.Str → Option Value} {news : List (Addr × Obj)} {env : Env}
theorem isFuncIn_spec {K : Frag} {h : Heap} {f : Addr} (X : K.In h) (e : isFuncIn K f = true) : ∃ o, h.get? f = some o ∧ ∃ fd, o.data = .func fd := by
  unfold isFuncIn at e
  split at e
  · rename_i c d fd sl ho
    exact ⟨_, X _ _ ho, fd, rfl⟩
  · cases e
theorem get_boundL {expr : Bool} {name : PySem.Str} {Q : Value → Shared → Prop} {es : List DictEntry} {n : Nat} (I : InstAt s.heap x ox 220 (some (dictOf es n))) (F : Fr h₀ L s.heap m) (X₀ : K.In h₀) (N : News h₀ L s.heap news) (hga : findIn K (.ref 220) "__getattribute__" = some (some (.builtin "list.__getattribute__"))) (hk : findIn K (.ref 220) "__getattr__" = some none)
    (hsub : subIn K (.ref 220) (.type "list") = some true) (hh : hasDictIn K 220 = true) (ha : findIn K (.ref 220) name = some (some (.ref f))) (hf : isFn K (.ref f) = true)
    (hgf : specialIn K (.ref f) "__get__" = some (some (.builtin "function.__get__"))) (ht : takesIn K (.ref f) = some false) (hc : copiedNames.contains name = false) (hl : getL name es = some none)
    (h : ∀ q h', Fr h₀ L h' m → News h₀ L h' ((q, methodObj (.ref f) (.ref x)) :: news) → (∀ p ∈ news, p.1 < q) → Q (.ref q) { s with heap := h', toks := s.toks + 1 }) : wpAny (model prog w) A (getAttr (.ref x) name expr) Q E s := by
  have X := X₀.keeps F.keep
  have hfo := findObj_fn hh ha hgf ht hc (od := dictOf es n) (by show lookIn name (dictOf es n) = _; rw [lookIn_dict, hl])
  refine wpAny_bind (wpAny_mkText (wpAny_holding (wpAny_bind (I.type _ _ _ _ (fun _ _ e => e) (wpAny_bind (looks_findIn X hga _ _ _ _ (fun _ _ e => e) ?_))))))
  dsimp only
  rw [show (onTheHeap (.ref 220) && Value.builtin "list.__getattribute__" == Value.builtin "object.__getattribute__") = false from by rw [show (Value.builtin "list.__getattribute__" == Value.builtin "object.__getattribute__") = false from by decide +kernel, Bool.and_false], if_neg (by decide)]
  unfold getAttrByItsOwn
  refine wpAny_bind (m := hookBefore (.ref 220)) (looks_findIn X hk _ _ _ _ (fun _ _ e => e) (wpAny_bind (wpAny_attempt (wpAny_holding ?_))))
  unfold callGetattribute
  rw [show (expr && onTheHeap (Value.builtin "list.__getattribute__")) = false from Bool.and_false _, if_neg (by decide)]
  unfold boundAndCalled
  rw [PySem.F.slot_list_getattribute.bind]
  refine wpAny_bind (wpAny_pure ?_)
  show wpAny _ _ (call (.builtin "list.__getattribute__") [.ref x, .str name s.toks]) _ _ _
  refine call_slotL (s := { s with toks := s.toks + 1 }) (n := "__getattribute__") X I hsub (by decide +kernel) (by decide +kernel) (by decide +kernel) PySem.F.entry_list_ga (PySem.F.args_list_getattribute_2 _ _) ?_
  have L0 := I.type (M := model prog w)
  have L1 := looks_find (M := model prog w) X I hfo
  refine wpAny_bind (wpAny_pure (wpAny_bind (wpAny_pure (wpAny_bind (L0.at (wpAny_bind (L1.at ?_)))))))
  dsimp only
  refine wpAny_bind (wpAny_holding (wpAny_call (fn_get (s := { s with toks := s.toks + 1 }) X (beq_iff_eq.mp hf) (wpAny_pure ⟨_, rfl, ?_⟩))))
  exact handed_on rfl (h s.heap.objs.size _ (F.push _) (N.push F _) fun p hp => Heap.lt_size (N p hp).1)

theorem star_tup {its : Array Value} {Q : List Value → Shared → Prop} (F : Fr h₀ L s.heap m) (N : News h₀ L s.heap news) (ht : s.heap.IsTuple T its) (hz : its.size ≤ 1000) (h : ∀ h', Fr h₀ L h' m → News h₀ L h' news → Q its.toList { s with heap := h' }) : StarOf (model prog w) A E (.ref T) Q s := by
  obtain ⟨o, D, hc, n, hd⟩ := ht
  have hT' : s.TypeIs (.ref T) "tuple" := ⟨o, D, hc⟩
  have z : wpAny (model prog w) A (collect (.ref T)) Q E s := by
    refine wpAny_collect_seq T (.inr rfl) D hc hd (fun h' hk => h h' ?_ fun p hp => ⟨hk _ _ (N p hp).1, (N p hp).2⟩) (by rw [sizeLine_eq]; omega)
    obtain ⟨oL, es, ep, hL, r⟩ := F.ns
    exact ⟨⟨oL, es, ep, hk _ _ hL, r⟩, fun b x q => hk _ _ (F.keep b x q), F.above⟩
  unfold StarOf notIterableAtAll
  exact wpAny_bind (wpAny_specialOf hT' PySem.F.slot_tuple_iter.lookup (wpAny_pure ⟨rfl, z⟩))

theorem callWith_star {first : List Value} {e : Expr} {p pos : Pos} {Q : Value → Shared → Prop} (_X₀ : K.In h₀) (_N : News h₀ L s.heap news) (_hq : (q, methodObj (.ref f) (.ref x)) ∈ news) (hf : isFuncIn K f = true)
    (h : wpAny M A (eval e env) (fun v s₁ => StarOf M A E v (fun vs s₂ => (K.In s₂.heap ∧ s₂.heap.get? q = some (methodObj (.ref f) (.ref x))) ∧ wpAny M A (call (.ref q) (first ++ vs)) Q E s₂) s₁) E s) :
    wpAny M A (callWith pos (.ref q) first (backTo pos (starEach [.Starred e p] env)) []) Q E s := by
  refine ks_call (P := fun h => K.In h ∧ h.get? q = some (methodObj (.ref f) (.ref x))) rfl (fun hh hP => ⟨.boundFrame, .inr (.inr rfl), ?_⟩) (ks_lone h)
  obtain ⟨X, hq⟩ := hP
  obtain ⟨o, ho, fd, hd⟩ := isFuncIn_spec X hf
  intro A' Q' E' s' k hz
  unfold keeperOf
  refine wpAny_bind (wpAny_load (k _ _ hq) ?_)
  dsimp only
  refine KFB.if_not (by decide) ?_
  refine wpAny_bind (wpAny_load (k _ _ ho) ?_)
  rw [hd]
  exact wpAny_pure hz

theorem CallAttr_star {o e : Expr} {name : PySem.Str} {apos p pos : Pos} {Q : Value → Shared → Prop}
    (h : wpAny M A (eval o env) (fun ov s₁ => wpAny M A (getAttr ov name true) (fun f s₂ => wpAny M A (callWith pos f [] (backTo pos (starEach [.Starred e p] env)) []) Q E s₂) E s₁) E s)
    (he : eval (.Call (.Attribute o name apos) [.Starred e p] [] pos) env = (do
      let ov ← eval o env
      standAt apos.atName
      let (f, first) ← holding [ov] (do pure (← getAttr ov name true, ([] : List Value)))
      callWith pos f first (backTo pos (starEach [.Starred e p] env)) [])) :
    wpAny M A (eval (.Call (.Attribute o name apos) [.Starred e p] [] pos) env) Q E s := by
  rw [he]
  refine wpAny_bind (wpAny_mono h (fun ov s₁ h₁ => wpAny_bind (wpAny_standAt (wpAny_bind (wpAny_holding (wpAny_bind (wpAny_mono h₁ (fun f s₂ h₂ => wpAny_pure h₂) fun _ _ x => x)))))) fun _ _ x => x)
end
theorem TupsAt.push {h : Heap} {its : Array Value} {ws : List PySem.Str} {T : Addr} {tf tv : Tok} {v : PySem.Str} (x : TupsAt h its ws) (t : h.IsTuple T #[.str (Str.ofString " ") tf, .str v tv]) : TupsAt h (its.push (.ref T)) (ws ++ [v]) := by
  refine ⟨by rw [Array.size_push, List.length_append, x.1]; rfl, fun j hj => ?_⟩
  by_cases hj' : j < ws.length
  · obtain ⟨T', tf', tv', e1, e2⟩ := x.2 j hj'
    refine ⟨T', tf', tv', ?_, ?_⟩
    · rw [Array.getElem?_push, if_neg (by have := x.1; omega)]; exact e1
    · rw [List.getElem_append_left hj']; exact e2
  · have hj2 : j = ws.length := by simp at hj; omega
    subst hj2
    refine ⟨T, tf, tv, ?_, ?_⟩
    · rw [← x.1]; simp
    · simpa using t
theorem ite_so {c : Prop} [Decidable c] {P Q : Prop} (hc : c) (h : P) : (if c then P else Q) := by rw [if_pos hc]; exact h
end Mine
end
section
open PySem PySem.W PyProof.Rows PySem.Calls PySem.Spec
set_option maxRecDepth 100000
namespace Mine
local macro_rules | `(tactic| k_mem) => `(tactic| assumption)
local macro_rules | `(tactic| k_inst) => `(tactic| (refine' Mine.InstAt.ofAcc ?N ?h1 ?h2; (case N => k_asm); (case h1 => k_mem); (case h2 => k_mem)))
local macro_rules | `(tactic| k_ne) => `(tactic| (refine neN ?_; (try dsimp only); first | exact Mine.NeA.ne (by with_reducible assumption) | exact Mine.NeA.ne' (by with_reducible assumption) | omega))
local macro_rules | `(tactic| walk_at $s:str) => `(tactic| k_extra $s)
theorem words_C5 : True := by
  k_with_none
  w_top off
  k_with "myenter" => (first | ((refine' Mine.enterR (by k_asm) (by k_asm) (by k_asm) (by k_asm) (by k_asm) (by exact rfl) (by exact rfl) (by assumption) (by k_is) (by k_is) (by ktr_room) (by first | exact BindsTo.of_eq rfl | exact binds_K (by k_in) rfl (by k_is) rfl rfl rfl) (by exact locs rfl) ?_ (by exact rfl) (by exact rfl) (by exact rfl) (by decide); k_whole; intro g' L' h' hG' FG' F' N' B' X' T' l1; (try k_lt l1); (try dsimp only); (try k_lift B'); (try k_fold))) | fail "no")
  k_with "mylen" => (first | (first | omega | (simp only [PySem.Str.length_append, PySem.sizeLine_eq] at *; omega)) | fail "no")
  k_with "getMethod ref" => (first | ((k_here; k_dflt (first | refine' Mine.method_fnL (by k_in) (by k_inst) (by k_is) (by k_is) (by k_is) (by k_is) (by exact Mine.shadow_dict (by k_get)) ?_; k_whole | refine' Mine.method_biL (by k_in) (by k_inst) (by k_is) (by k_is) (by k_is) (by exact PySem.F.type_list_append) (by exact Mine.shadow_dict (by k_get)) ?_; k_whole))) | fail "no")
  k_with "call builtin:list.append" => (first | ((k_here; (with_reducible show wpAny _ _ (call (Value.builtin _) [Value.ref _, _]) _ _ _); k_dflt (refine' Mine.append_accL (by k_asm) (by k_asm) (by k_asm) (by k_upd) (by k_mem) (by k_is) ?_ (by walk_at "mylen"); k_whole); intro h' F' N'; (try k_sweep))) | fail "no")
  k_with "getAttr ref" => (first | ((k_here; k_dflt (refine' Mine.get_ownL' (by k_asm) (by k_asm) (by k_inst) (by k_is) (by k_is) (by k_is) (by k_is) (by k_is) (by k_is) (by k_get) (by k_handed) ?_; k_whole))) | fail "no")
  k_with "mytups" => (first | (first | assumption | exact Mine.TupsAt.keeps (by assumption) (fun b o e _ => Fr.keep (by k_asm) b o e)) | fail "no")
  k_with "eval GeneratorExp" => (first | ((k_here; k_dflt (first | ((with_reducible show wpAny _ _ (eval (Expr.GeneratorExp (Expr.BinOp _ _ _ _) _ _ _) _) _ _ _); refine' Mine.gen_len_K (by k_asm) (by k_asm) (by k_asm) (by k_asm) (by exact rfl) (by exact rfl) (by exact rfl) (by exact rfl) (by exact rfl) (by ktr_room) (by k_mem) (by k_mem) (by (intro ps'; k_upd)) (by assumption) (by walk_at "mytups") (by assumption) ?_) | ((with_reducible show wpAny _ _ (eval (Expr.GeneratorExp (Expr.Call _ _ _ _) _ _ _) _) _ _ _); refine' Mine.gen_join_K (by exact rfl) (by k_asm) (by k_asm) (by k_asm) (by k_asm) (by exact rfl) (by exact rfl) (by exact rfl) (by exact rfl) (by exact rfl) (by ktr_room) (by k_mem) (by k_mem) (by (intro ps'; k_upd)) (by assumption) (by walk_at "mytups") (by assumption) ?_)); intro a' ps' h' gs' tk' lo' F' N' hps' hAB' hlo' hlo2' G'; (try dsimp only at N'))) | fail "no")
  k_with "call builtin:sum" => (first | ((k_here; k_dflt (refine' Mine.sum_len_K (by k_asm) (by k_asm) (by refine Mine.Gen.toks (by assumption) ?_; first | exact Nat.le_succ _ | exact Nat.le_refl _) (by exact (Mine.TupsAt.size (by assumption)).symm) (by assumption) (by assumption) ?_); intro h' gs' tk' t' F' N' hAB' hK')) | fail "no")
  k_with "call builtin:str.join" => (first | ((k_here; (with_reducible show wpAny _ _ (call (Value.builtin _) [Value.str _ _, Value.ref _]) _ _ _); k_dflt (refine' Mine.join_str_K (by k_asm) (by k_asm) (by refine Mine.Gen.toks (by assumption) ?_; first | exact Nat.le_succ _ | exact Nat.le_refl _) (by exact (Mine.TupsAt.size (by assumption)).symm) (by assumption) (by assumption) (by assumption) (by assumption) ?_); intro h' gs' tk' t' F' N' hAB' hK')) | fail "no")
  k_with "ksenter" => (first | ((refine' Mine.ks_codeR (by k_asm) (by k_asm) (by k_asm) (by k_asm) (by k_asm) (by exact rfl) (by exact rfl) (by assumption) (by k_is) (by k_is) (by ktr_room) (by first | exact BindsTo.of_eq rfl | exact binds_K (by k_in) rfl (by k_is) rfl rfl rfl) (by exact locs rfl) ?_ (by decide) (by exact rfl) (by exact rfl) (by exact rfl); intro g' L' h' hG' FG' F' N' B' X' T' l1; (try k_lt l1); (try dsimp only); (try k_lift B'); (try k_fold))) | fail "no")
  k_with "getMethod ref" => (first | ((k_here; k_dflt (refine' Mine.meth_len_K (by k_asm) (by k_asm) (by k_asm) (by k_mem) (by k_inst) (by k_is) (by k_is) (by ks_is) (by decide) (by first | exact Mine.ty_len | exact Mine.ty_pop | exact Mine.ty_init) (by first | exact Or.inl ⟨rfl, rfl⟩ | exact Or.inr ⟨rfl, rfl⟩) (by first | exact Mine.nc_len | exact Mine.nc_pop | exact Mine.nc_init) (by decide +kernel) ?_; intro q' h' F' N' l1; (try k_lt l1)))) | fail "no")
  k_with "callWith ref" => (first | ((k_here; k_dflt (refine' Mine.callWith_B (by k_asm) (by k_mem) (by first | exact Or.inl rfl | exact Or.inr rfl) ?_))) | fail "no")
  k_with "call ref" => (first | ((k_here; k_dflt (first | (refine' Mine.call_len_K (by k_asm) (by k_mem) (by k_mem) ?_; intro t' tk') | (refine' Mine.call_pop_K (by k_asm) (by k_asm) (by k_asm) (by k_mem) (by k_upd) (by k_mem) (by exact rfl) (by rfl) (by k_is) (by k_is) (by walk_at "mylen") ?_; intro h' F' N')))) | fail "no")
  k_with "newsx" => (first | (first | (intro _; exact News.nil) | (intro nx; refine' Mine.News.one nx (by k_mem) (by walk_at "newsx"))) | fail "no")
  k_with "news" => (first | (first | assumption | (refine' Mine.News.one (by assumption) (by k_mem) (by walk_at "newsx")) | (refine News.perm (by assumption) ?_; simp; done) | (refine News.perm (by assumption) ?_; intro p hp; simp only [List.mem_cons, List.not_mem_nil, or_false] at hp ⊢; rcases hp with rfl | hp <;> simp_all)) | fail "no")
  k_with "kb" => (first | (exact Mine.KB.fin (by assumption) (by assumption)) | fail "no")
  k_with "splitne" => (first | ((repeat ((with_reducible rename Mine.NeA _ _ ∧ _ => kc'); (first | (refine Mine.sp16 kc' ?_; intro _ _ _ _ _ _ _ _ _ _ _ _ _ _ _ _ _) | (refine Mine.sp8 kc' ?_; intro _ _ _ _ _ _ _ _ _) | (refine Mine.sp4 kc' ?_; intro _ _ _ _ _) | (refine Mine.sp2 kc' ?_; intro _ _ _) | (refine Mine.sp1 kc' ?_; intro _ _)); clear kc'))) | fail "no")
  k_with "upds" => (first | (first | exact Mine.Upds.nil | (refine' Mine.Upds.cons (by k_upd) (by walk_at "upds"))) | fail "no")
  k_with "mylens" => (first | (assumption) | fail "no")
  k_with "call ref" => (first | ((k_here; k_dflt ((first | with_reducible show wpAny _ _ (call (Value.ref 217) _) _ _ _ | with_reducible show wpAny _ _ (call (Value.ref (nat_lit 217)) _) _ _ _); refine' Mine.part_count_K _ _ _ _ _ _ _ _ _ _ _ _ _ _ _ _ _ _ _ _ _ _ _ _ _ _ _ (by k_asm) (by k_asm) (by k_asm) (by k_asm) (by first | assumption | exact rfl) (by (dsimp only [ktrTop, Around.deeper]; omega)) (by (dsimp only [ktrTop, Around.deeper]; omega)) (by k_asm) (by k_mem) (by k_mem) ?_); intro h' tk' t' F' N')) | fail "no")
  k_with "call ref" => (first | ((k_here; k_dflt ((first | with_reducible show wpAny _ _ (call (Value.ref 187) _) _ _ _ | with_reducible show wpAny _ _ (call (Value.ref (nat_lit 187)) _) _ _ _); refine' Mine.len_K _ _ _ _ _ _ _ _ _ _ _ _ _ _ _ _ _ _ _ _ _ _ _ _ _ _ _ _ _ _ (by k_asm) (by k_asm) (by k_asm) (by k_asm) (by first | assumption | exact rfl) (by (dsimp only [ktrTop, Around.deeper]; omega)) (by (dsimp only [ktrTop, Around.deeper]; omega)) (by k_asm) (by k_mem) (by k_mem) (by (intro ps'; walk_at "upds")) (by assumption) (by walk_at "mytups") (by walk_at "mylens") (by walk_at "mylen") ?_); intro ps' h' gs' tk' t' F' N' hps' hAB' hlb'; (try dsimp only at N'); (try (refine Mine.len_back (by assumption) ?_)))) | fail "no")
  k_with "call ref" => (first | ((k_here; k_dflt ((first | with_reducible show wpAny _ _ (call (Value.ref 194) _) _ _ _ | with_reducible show wpAny _ _ (call (Value.ref (nat_lit 194)) _) _ _ _); refine' Mine.str_K _ _ _ _ _ _ _ _ _ _ _ _ _ _ _ _ _ _ _ _ _ _ _ _ _ _ _ _ _ _ (by k_asm) (by k_asm) (by k_asm) (by k_asm) (by first | assumption | exact rfl) (by (dsimp only [ktrTop, Around.deeper]; omega)) (by (dsimp only [ktrTop, Around.deeper]; omega)) (by k_asm) (by k_mem) (by k_mem) (by (intro ps'; walk_at "upds")) (by assumption) (by walk_at "mytups") (by walk_at "mylens") (by walk_at "mylen") ?_); intro ps' h' gs' tk' t' F' N' hps' hAB' hTk'; (try dsimp only at N'); (try dsimp only [W.StrBack]))) | fail "no")
  k_with "call ref" => (first | ((k_here; k_dflt ((first | with_reducible show wpAny _ _ (call (Value.ref 164) _) _ _ _ | with_reducible show wpAny _ _ (call (Value.ref (nat_lit 164)) _) _ _ _); refine' Mine.push_K _ _ _ _ _ _ _ _ _ _ _ _ _ _ _ _ _ _ _ _ _ _ _ _ _ _ _ _ _ _ _ _ (by k_asm) (by k_asm) (by k_asm) (by k_asm) (by first | assumption | exact rfl) (by (dsimp only [ktrTop, Around.deeper]; omega)) (by (dsimp only [ktrTop, Around.deeper]; omega)) (by k_asm) (by k_mem) (by (intro tp'; walk_at "upds")) (by walk_at "mylen") ?_); intro tp' h' tk' F' N' hne'; (try dsimp only at N'); (replace hne' := Mine.allNe_of hne'; dsimp only [Mine.AllNe] at hne'; walk_at "splitne"))) | fail "no")
  k_with "subscriptTail Name Slice ref ref" => (first | ((k_here; (with_reducible show wpAny _ _ (subscriptTail _ (PySem.Expr.Slice _ _ none _) (Value.ref _) (Value.ref _)) _ _ _); k_dflt (refine' Mine.slice_K (by k_asm) (by k_asm) (by k_asm) (by k_mem) (by k_mem) (by k_is) (by k_is) (by k_is) (by kmk_part) (by kmk_part) (by walk_at "mylen") (by first | exact Mine.pick_from (by assumption) | exact rfl) ?_ (by with_unfolding_all rfl) (by kmk_pure)); intro D' h' F' N' l1; (try k_lt l1))) | fail "no")
  k_with "setItem ref ref" => (first | ((k_here; k_dflt (refine' Mine.setitem_K (by k_asm) (by k_asm) (by k_asm) (by kmk_list) (by (intro n'; k_upd)) (by k_mem) (by k_is) (by k_is) (by k_is) (by kmk_part) (by kmk_part) (by walk_at "mylen") (by first | walk_at "mylen" | (simp; done)) (by first | exact Mine.set_from (by assumption) | exact Mine.set_all | exact rfl) ?_); intro n' h' F' N'; (try dsimp only at N'))) | fail "no")
  k_with "setAttr ref" => (first | ((k_here; k_dflt (refine' Mine.set_dictL (by k_asm) (by k_asm) (by k_asm) (by k_inst) (by exact rfl) (by k_is) (by exact Mine.mro220 _) (by k_is) (by k_is) (by k_get) (by k_put) (by k_upd) (by exact Nat.le_of_ble_eq_true rfl) ?_; k_whole; intro h' F' N'; (try k_sweep)))) | fail "no")
  k_with "wpAt" => (first | (((with_reducible show _root_.PySem.wpAt _ _ _ (execs (_ :: _) _) _ _ _); refine ks_wpAt_execs_cons ?_)) | fail "no")
  k_with "wpAt" => (first | ((ks_step "eval Call"; k_dflt (refine ks_wpAt_MethodCall ?_))) | fail "no")
  k_with "truthy ref" => (first | ((k_here; k_dflt (refine' Mine.truthy_lenL (by k_in) (by k_inst) (by k_is) (by k_is) (by k_is) ?_; k_whole))) | fail "no")
  k_with "Exists" => (first | ((refine ⟨_, _, rfl, ?_⟩)) | fail "no")
  k_with "units" => (first | (first | k_units | (dsimp only [ktrTop, Around.deeper, Around.in1]; omega) | (simp only [ktrTop, Around.deeper, Around.in1, Around.under]; omega)) | fail "no")
  k_with "call type:str" => (first | ((k_here; (with_reducible show wpAny _ _ (call (Value.type "str") [Value.ref _]) _ _ _); k_dflt (refine' kso_call (by walk_at "units") (by k_in) (by k_inst) (by k_is) (by k_is) ?_; k_whole))) | fail "no")
  k_with "call ref" => (first | ((k_here; k_dflt ((first | with_reducible show wpAny _ _ (call (Value.ref 180) _) _ _ _ | with_reducible show wpAny _ _ (call (Value.ref (nat_lit 180)) _) _ _ _); refine' Mine.pop_K _ _ _ _ _ _ _ _ _ _ _ _ _ _ _ _ _ _ _ _ _ _ _ _ _ _ _ _ _ (by k_asm) (by k_asm) (by k_asm) (by k_asm) (by first | assumption | exact rfl) (by (dsimp only [ktrTop, Around.deeper]; omega)) (by (dsimp only [ktrTop, Around.deeper]; omega)) (by k_asm) (by walk_at "upds") (by k_mem) (by walk_at "mylen") ?_); intro h' tk' F' N'; (try dsimp only at N'))) | fail "no")
  k_with "call ref" => (first | ((k_here; k_dflt ((first | with_reducible show wpAny _ _ (call (Value.ref 172) _) _ _ _ | with_reducible show wpAny _ _ (call (Value.ref (nat_lit 172)) _) _ _ _); refine' Mine.pop_from_K _ _ _ _ _ _ _ _ _ _ _ _ _ _ _ _ _ _ _ _ _ _ _ _ _ _ _ _ _ _ (by k_asm) (by k_asm) (by k_asm) (by k_asm) (by first | assumption | exact rfl) (by (dsimp only [ktrTop, Around.deeper]; omega)) (by (dsimp only [ktrTop, Around.deeper]; omega)) (by k_asm) (by (intro n'; walk_at "upds")) (by k_mem) (by walk_at "mylen") (by walk_at "mylen") ?_); intro D' n' h' tk' F' N' hne'; (try dsimp only at N'); (replace hne' := Mine.allNe_of hne'; dsimp only [Mine.AllNe] at hne'; walk_at "splitne"))) | fail "no")
  k_with "call ref" => (first | ((k_here; k_dflt ((first | with_reducible show wpAny _ _ (call (Value.ref 202) _) _ _ _ | with_reducible show wpAny _ _ (call (Value.ref (nat_lit 202)) _) _ _ _); refine' Mine.reset_K _ _ _ _ _ _ _ _ _ _ _ _ _ _ _ _ _ _ _ _ _ _ _ _ _ _ _ (by k_asm) (by k_asm) (by k_asm) (by k_asm) (by first | assumption | exact rfl) (by (dsimp only [ktrTop, Around.deeper]; omega)) (by (dsimp only [ktrTop, Around.deeper]; omega)) (by k_asm) (by k_mem) (by (intro n' t'; walk_at "upds")) (by walk_at "mylen") ?_); intro n' t' h' tk' F' N'; (try dsimp only at N'))) | fail "no")
  k_with "call ref" => (first | ((k_here; k_dflt ((first | with_reducible show wpAny _ _ (call (Value.ref 202) _) _ _ _ | with_reducible show wpAny _ _ (call (Value.ref (nat_lit 202)) _) _ _ _); refine' Mine.reset2_K _ _ _ _ _ _ _ _ _ _ _ _ _ _ _ _ _ _ _ _ _ _ _ _ _ _ _ _ _ _ (by k_asm) (by k_asm) (by k_asm) (by k_asm) (by first | assumption | exact rfl) (by (dsimp only [ktrTop, Around.deeper]; omega)) (by (dsimp only [ktrTop, Around.deeper]; omega)) (by k_asm) (by k_mem) (by k_mem) (by (intro n' t'; walk_at "upds")) (by walk_at "mylen") (by first | exact Nat.le_of_ble_eq_true rfl | walk_at "mylen") ?_); intro n' t' h' tk' F' N'; (try dsimp only at N'))) | fail "no")
  k_with "istup" => (first | (first | exact Mine.isTup_news (by k_asm) (by k_mem) | exact Mine.isTup_fr (by assumption) (by k_asm)) | fail "no")
  k_with "compareOp NotEq ref ref" => (first | ((k_here; k_dflt (refine Mine.tup_ne (by walk_at "istup") (by walk_at "istup") (by assumption) (by first | assumption | decide +kernel) (by first | assumption | decide +kernel) (by first | assumption | decide +kernel) (by first | assumption | decide +kernel) (by walk_at "units") ?_))) | fail "no")
  k_with "call ref" => (first | ((k_here; k_dflt ((first | with_reducible show wpAny _ _ (call (Value.ref 209) _) _ _ _ | with_reducible show wpAny _ _ (call (Value.ref (nat_lit 209)) _) _ _ _); refine' Mine.onlyws_K _ _ _ _ _ _ _ _ _ _ _ _ _ _ _ _ _ _ _ _ _ _ _ _ _ _ _ _ _ _ (by k_asm) (by k_asm) (by k_asm) (by k_asm) (by first | assumption | exact rfl) (by (dsimp only [ktrTop, Around.deeper]; omega)) (by (dsimp only [ktrTop, Around.deeper]; omega)) (by k_asm) (by k_mem) (by k_mem) (by k_mem) (by k_mem) (by (intro p2' p9'; walk_at "upds")) (by walk_at "mylen") (by assumption) (by assumption) (by walk_at "mytups") (by walk_at "mylens") (by assumption) (by assumption) ?_); intro p2' p9' h' gs' tk' F' N' hp2' hp9' hAB'; (try dsimp only at N'))) | fail "no")
  k_with "eval Call" => (first | ((k_here; (with_reducible show wpAny _ _ (eval (Expr.Call (Expr.Attribute _ _ _) [Expr.Starred _ _] [] _) _) _ _ _); k_dflt (refine' Mine.CallAttr_star ?_ (by with_unfolding_all rfl)))) | fail "no")
  k_with "eval Call Attribute" => (first | ((k_here; (with_reducible show wpAny _ _ (eval (Expr.Call (Expr.Attribute _ _ _) [Expr.Starred _ _] [] _) _) _ _ _); k_dflt (refine' Mine.CallAttr_star ?_ (by with_unfolding_all rfl)))) | fail "no")
  k_with "getAttr ref" => (first | ((k_here; k_dflt (refine' Mine.get_boundL (by k_inst) (by k_asm) (by k_asm) (by k_asm) (by k_is) (by k_is) (by k_is) (by k_is) (by k_is) (by k_is) (by k_is) (by k_is) (by decide +kernel) (by k_get) ?_; k_whole); intro q' h' F' N' l1; (try k_lt l1))) | fail "no")
  k_with "callWith ref" => (first | ((k_here; (with_reducible show wpAny _ _ (callWith _ (Value.ref _) _ (backTo _ (starEach [Expr.Starred _ _] _)) []) _ _ _); k_dflt (refine' Mine.callWith_star (by k_asm) (by k_asm) (by k_mem) (by exact Mine.func164 _) ?_))) | fail "no")
  k_with "StarOf ref" => (first | ((k_here; k_dflt (refine' Mine.star_tup (by k_asm) (by k_asm) (by walk_at "istup") (by exact Nat.le_of_ble_eq_true rfl) ?_; k_whole); intro h' F' N'; (try dsimp only [List.nil_append, List.cons_append]))) | fail "no")
  k_with "And" => (first | ((refine ⟨⟨by k_in, News.get (by k_asm) (by k_mem)⟩, ?_⟩)) | fail "no")
  k_with "call ref" => (first | ((k_here; k_dflt (refine' call_meth (by k_asm) (by k_mem) ?_; refine' Mine.push_KC _ _ _ _ _ _ _ _ _ _ _ _ _ _ _ _ _ _ _ _ _ _ _ _ _ _ _ _ _ _ _ _ (by k_asm) (by k_asm) (by k_asm) (by k_asm) (by first | assumption | exact rfl) (by (dsimp only [ktrTop, Around.deeper]; omega)) (by (dsimp only [ktrTop, Around.deeper]; omega)) (by k_asm) (by k_mem) (by (intro tp'; walk_at "upds")) (by walk_at "mylen") ?_); intro tp' h' tk' F' N' hne'; (try dsimp only at N'); (replace hne' := Mine.allNe_of hne'; dsimp only [Mine.AllNe] at hne'; walk_at "splitne"))) | fail "no")
  k_with "mytups" => (first | (first | exact Mine.TupsAt.keeps (by assumption) (fun b o e _ => Fr.keep (by k_asm) b o e) | exact Mine.TupsAt.push (by walk_at "mytups") (by walk_at "istup")) | fail "no")
  k_with "mylen" => (first | (first | omega | (simp only [Array.size_push, Array.size_extract]; omega)) | fail "no")
  k_with "ite" => (first | ((refine Mine.ite_so (by first | with_reducible assumption | exact decide_eq_true (by with_reducible assumption)) ?_)) | fail "no")
  trivial
set_option maxHeartbeats 4000000 in
theorem newline_ok (w : World) {p : Program} {loose : List PySem.Str} {mean : ExcName → Option Value} {mg mb : PySem.Str → Option Value} (dp un : Nat) (gd : Option (List Code)) (cn : PySem.Str) (cs : Scope) (a : Addr) (ccd : Value) (cl : List (PySem.Str × Addr)) (outer : List Env) (A₀ : Around) (base h₀ : Heap) (L : Addr) (m : PySem.Str → Option Value) (s : Shared) (Q E : Value → Shared → Prop) (mk dmk ln x dx : Addr) (g1 g2 g3 g4 g5 g6 e1 mxl : Int) (m1 m2 m3 m4 m5 m6 m7 m8 m9 tW k1 t0 : Tok) (lns its : Array Value) (cn' n : Nat) (T0 : Addr) (p2 p9 : Array Value) (ws : List PySem.Str) (v : PySem.Str) (tf tv : Tok)
    (B : Below A₀ base outer h₀) (F : Fr h₀ L s.heap m) (X : (Mine.hd.heap_1 w.params).In h₀) (T : Top p loose mean mg mb h₀) (hk : cs.kind = .function) (hd : dp + 10 < recursionLimit) (hu : un + 200 < cLine)
    (N : News h₀ L s.heap [(mk, instObj 136 dmk), (dmk, dictOf [⟨g1, .str (Str.ofString "_maxlen") m1, .int mxl tW⟩, ⟨g2, .str (Str.ofString "_continuation_ws") m2, .str (Str.ofString " ") m3⟩, ⟨g3, .str (Str.ofString "_continuation_ws_len") m4, .int 1 m5⟩, ⟨g4, .str (Str.ofString "_splitchars") m6, .str (Str.ofString " ") m7⟩, ⟨g5, .str (Str.ofString "_lines") m8, .ref ln⟩, ⟨g6, .str (Str.ofString "_current_line") m9, .ref x⟩] 6), (ln, W.listOf lns cn'), (x, accO dx (its.push (.ref T0)) n), (dx, dictOf [⟨e1, .str (Str.ofString "_initial_size") k1, .int 0 t0⟩] 1), (182, tabObj p2), (189, tabObj p9)])
    (hne : NeA mk dmk ∧ NeA mk ln ∧ NeA mk x ∧ NeA mk dx ∧ NeA mk 182 ∧ NeA mk 189 ∧ NeA dmk ln ∧ NeA dmk x ∧ NeA dmk dx ∧ NeA dmk 182 ∧ NeA dmk 189 ∧ NeA ln x ∧ NeA ln dx ∧ NeA ln 182 ∧ NeA ln 189 ∧ NeA x dx ∧ NeA x 182 ∧ NeA x 189 ∧ NeA dx 182 ∧ NeA dx 189)
    (hsz : its.size ≤ 900) (hsl : lns.size ≤ 900) (hp2 : psOk pos132 p2) (hp9 : psOk pos135 p9) (hT : TupsAt s.heap its ws) (hTT : s.heap.IsTuple T0 #[.str (Str.ofString " ") tf, .str v tv])
    (hl : ∀ u ∈ ws ++ [v], u.length ≤ 1000) (hv : (v == Str.ofString "") = false) (hok : PyData.strOk v = true) (hpos : lenW (ws ++ [v]) ≠ 0) (hpos2 : lenW (ws ++ [v]) > 0) (hsp : Txt.isspace (txt (ws ++ [v])) = false)
    (hret : ∀ n' t' t1 p2' p9' h' gs tk', Fr h₀ L h' m → News h₀ L h' [(mk, instObj 136 dmk), (dmk, dictOf [⟨g1, .str (Str.ofString "_maxlen") m1, .int mxl tW⟩, ⟨g2, .str (Str.ofString "_continuation_ws") m2, .str (Str.ofString " ") m3⟩, ⟨g3, .str (Str.ofString "_continuation_ws_len") m4, .int 1 m5⟩, ⟨g4, .str (Str.ofString "_splitchars") m6, .str (Str.ofString " ") m7⟩, ⟨g5, .str (Str.ofString "_lines") m8, .ref ln⟩, ⟨g6, .str (Str.ofString "_current_line") m9, .ref x⟩] 6), (ln, W.listOf (lns.push (.str (txt (ws ++ [v])) t1)) (cn' + 1)), (x, accO dx #[] n'), (dx, dictOf [⟨e1, .str (Str.ofString "_initial_size") k1, .int 0 t'⟩] 1), (182, tabObj p2'), (189, tabObj p9')] → psOk pos132 p2' → psOk pos135 p9' → (AllBare s.gens → AllBare gs) → KB [(mk, instObj 136 dmk), (dmk, dictOf [⟨g1, .str (Str.ofString "_maxlen") m1, .int mxl tW⟩, ⟨g2, .str (Str.ofString "_continuation_ws") m2, .str (Str.ofString " ") m3⟩, ⟨g3, .str (Str.ofString "_continuation_ws_len") m4, .int 1 m5⟩, ⟨g4, .str (Str.ofString "_splitchars") m6, .str (Str.ofString " ") m7⟩, ⟨g5, .str (Str.ofString "_lines") m8, .ref ln⟩, ⟨g6, .str (Str.ofString "_current_line") m9, .ref x⟩] 6), (ln, W.listOf lns cn'), (x, accO dx (its.push (.ref T0)) n), (dx, dictOf [⟨e1, .str (Str.ofString "_initial_size") k1, .int 0 t0⟩] 1), (182, tabObj p2), (189, tabObj p9)] s.heap h' → Q .none { s with heap := h', gens := gs, toks := tk' })
    : wpAny (model PySem.Challenge.rw_wn0105_01.row.prog w) (ktrTop dp un gd cn cs L a ccd cl outer) (call (.ref 98) [.ref mk]) Q E s := by
  obtain ⟨a1, a2, a3, a4, a5, a6, a7, a8, a9, a10, a11, a12, a13, a14, a15, a16, a17, a18, a19, a20⟩ := hne
  revert X; k_fill; intro X
  refine wpAny_call ?_
  k_dflt walk_at "myenter"
  (have hTg := TupsAt.kb hT N (by assumption) (by simp))
  (have hTTg := isTup_kb hTT N (by assumption) (by simp))
  k_steps
  all_goals (try (exact News.get (by k_asm) (by k_mem)))
  exact hret _ _ _ _ _ _ _ _ (by k_asm) (by walk_at "news") (by assumption) (by assumption) (by intro hx; solve_by_elim) (by walk_at "kb")
end Mine
end
section
open PySem PySem.W PyProof.Rows PySem.Calls PySem.Spec
set_option maxRecDepth 100000
namespace Mine
theorem ne_obj2 {h₀ h : Heap} {L a b : Addr} {o o' : Obj} {news : List (Addr × Obj)} (N : News h₀ L h news) (h1 : (a, o) ∈ news) (h2 : (b, o') ∈ news) (hc : o ≠ o') : @Ne Nat a b := fun q => by
  have e1 := (N _ h1).1
  have e2 := (N _ h2).1
  have q' : a = b := q
  subst q'
  rw [e1] at e2
  exact hc (Option.some.inj e2)
theorem newsAll {h₀ h : Heap} {L : Addr} {E news : List (Addr × Obj)} (N : News h₀ L h news) (hE : ∀ p ∈ E, p ∈ news) : News h₀ L h E := fun p hp => N p (hE p hp)
theorem newline_K (w : World) {p : Program} {loose : List PySem.Str} {mean : ExcName → Option Value} {mg mb : PySem.Str → Option Value} (dp un : Nat) (gd : Option (List Code)) (cn : PySem.Str) (cs : Scope) (a : Addr) (ccd : Value) (cl : List (PySem.Str × Addr)) (outer : List Env) (A₀ : Around) (base h₀ : Heap) (L : Addr) (m : PySem.Str → Option Value) (s : Shared) (Q E : Value → Shared → Prop) (mk dmk ln x dx : Addr) (g1 g2 g3 g4 g5 g6 e1 mxl : Int) (m1 m2 m3 m4 m5 m6 m7 m8 m9 tW k1 t0 : Tok) (lns its : Array Value) (cn' n : Nat) (T0 : Addr) (p2 p9 : Array Value) (ws : List PySem.Str) (v : PySem.Str) (tf tv : Tok) (news : List (Addr × Obj)) (news' : Nat → Tok → Tok → Array Value → Array Value → List (Addr × Obj))
    (B : Below A₀ base outer h₀) (F : Fr h₀ L s.heap m) (X : (Mine.hd.heap_1 w.params).In h₀) (T : Top p loose mean mg mb h₀) (hk : cs.kind = .function) (hd : dp + 10 < recursionLimit) (hu : un + 200 < cLine)
    (N : News h₀ L s.heap news) (i1 : (mk, instObj 136 dmk) ∈ news) (i2 : (dmk, dictOf [⟨g1, .str (Str.ofString "_maxlen") m1, .int mxl tW⟩, ⟨g2, .str (Str.ofString "_continuation_ws") m2, .str (Str.ofString " ") m3⟩, ⟨g3, .str (Str.ofString "_continuation_ws_len") m4, .int 1 m5⟩, ⟨g4, .str (Str.ofString "_splitchars") m6, .str (Str.ofString " ") m7⟩, ⟨g5, .str (Str.ofString "_lines") m8, .ref ln⟩, ⟨g6, .str (Str.ofString "_current_line") m9, .ref x⟩] 6) ∈ news) (i3 : (ln, W.listOf lns cn') ∈ news) (i4 : (x, accO dx (its.push (.ref T0)) n) ∈ news) (i5 : (dx, dictOf [⟨e1, .str (Str.ofString "_initial_size") k1, .int 0 t0⟩] 1) ∈ news) (i6 : (182, tabObj p2) ∈ news) (i7 : (189, tabObj p9) ∈ news)
    (U : ∀ n' t' t1 p2' p9', Upds [(ln, W.listOf lns cn'), (x, accO dx (its.push (.ref T0)) n), (dx, dictOf [⟨e1, .str (Str.ofString "_initial_size") k1, .int 0 t0⟩] 1), (182, tabObj p2), (189, tabObj p9)] [(ln, W.listOf (lns.push (.str (txt (ws ++ [v])) t1)) (cn' + 1)), (x, accO dx #[] n'), (dx, dictOf [⟨e1, .str (Str.ofString "_initial_size") k1, .int 0 t'⟩] 1), (182, tabObj p2'), (189, tabObj p9')] news (news' n' t' t1 p2' p9'))
    (hsz : its.size ≤ 900) (hsl : lns.size ≤ 900) (hp2 : psOk pos132 p2) (hp9 : psOk pos135 p9) (hT : TupsAt s.heap its ws) (hTT : s.heap.IsTuple T0 #[.str (Str.ofString " ") tf, .str v tv])
    (hl : ∀ u ∈ ws ++ [v], u.length ≤ 1000) (hv : (v == Str.ofString "") = false) (hok : PyData.strOk v = true) (hpos : lenW (ws ++ [v]) ≠ 0) (hpos2 : lenW (ws ++ [v]) > 0) (hsp : Txt.isspace (txt (ws ++ [v])) = false)
    (h : ∀ n' t' t1 p2' p9' h' gs tk', Fr h₀ L h' m → News h₀ L h' (news' n' t' t1 p2' p9') → psOk pos132 p2' → psOk pos135 p9' → (AllBare s.gens → AllBare gs) → Tk s.heap h' → Q .none { s with heap := h', gens := gs, toks := tk' })
    : wpAny (model PySem.Challenge.rw_wn0105_01.row.prog w) (ktrTop dp un gd cn cs L a ccd cl outer) (call (.ref 98) [.ref mk]) Q E s := by
  have N7 : News h₀ L s.heap [(mk, instObj 136 dmk), (dmk, dictOf [⟨g1, .str (Str.ofString "_maxlen") m1, .int mxl tW⟩, ⟨g2, .str (Str.ofString "_continuation_ws") m2, .str (Str.ofString " ") m3⟩, ⟨g3, .str (Str.ofString "_continuation_ws_len") m4, .int 1 m5⟩, ⟨g4, .str (Str.ofString "_splitchars") m6, .str (Str.ofString " ") m7⟩, ⟨g5, .str (Str.ofString "_lines") m8, .ref ln⟩, ⟨g6, .str (Str.ofString "_current_line") m9, .ref x⟩] 6), (ln, W.listOf lns cn'), (x, accO dx (its.push (.ref T0)) n), (dx, dictOf [⟨e1, .str (Str.ofString "_initial_size") k1, .int 0 t0⟩] 1), (182, tabObj p2), (189, tabObj p9)] :=
    newsAll N (by simp only [List.mem_cons, List.not_mem_nil, or_false, forall_eq_or_imp, forall_eq]; exact ⟨i1, i2, i3, i4, i5, i6, i7⟩)
  have dd : (dictOf [⟨g1, .str (Str.ofString "_maxlen") m1, .int mxl tW⟩, ⟨g2, .str (Str.ofString "_continuation_ws") m2, .str (Str.ofString " ") m3⟩, ⟨g3, .str (Str.ofString "_continuation_ws_len") m4, .int 1 m5⟩, ⟨g4, .str (Str.ofString "_splitchars") m6, .str (Str.ofString " ") m7⟩, ⟨g5, .str (Str.ofString "_lines") m8, .ref ln⟩, ⟨g6, .str (Str.ofString "_current_line") m9, .ref x⟩] 6 : Obj) ≠ dictOf [⟨e1, .str (Str.ofString "_initial_size") k1, .int 0 t0⟩] 1 := by intro e; simp [dictOf] at e
  have ld : ∀ a b c d, (W.listOf a b).cls ≠ (dictOf c d).cls := by intro a b c d hc; injection hc with hc; exact absurd hc (by decide)
  have dl : ∀ a b c d, (dictOf c d).cls ≠ (W.listOf a b).cls := by intro a b c d hc; injection hc with hc; exact absurd hc (by decide)
  refine newline_ok w dp un gd cn cs a ccd cl outer A₀ base h₀ L m s Q E mk dmk ln x dx g1 g2 g3 g4 g5 g6 e1 mxl m1 m2 m3 m4 m5 m6 m7 m8 m9 tW k1 t0 lns its cn' n T0 p2 p9 ws v tf tv B F X T hk hd hu N7
    ⟨ne_obj N i1 i2 nofun, ne_obj N i1 i3 nofun, ne_obj N i1 i4 nofun, ne_obj N i1 i5 nofun, ne_obj N i1 i6 nofun, ne_obj N i1 i7 nofun, ne_obj N i2 i3 (dl _ _ _ _), ne_obj N i2 i4 nofun, ne_obj2 N i2 i5 dd, ne_obj N i2 i6 nofun, ne_obj N i2 i7 nofun,
      ne_obj N i3 i4 nofun, ne_obj N i3 i5 (ld _ _ _ _), ne_obj N i3 i6 nofun, ne_obj N i3 i7 nofun, ne_obj N i4 i5 nofun, ne_obj N i4 i6 nofun, ne_obj N i4 i7 nofun, ne_obj N i5 i6 nofun, ne_obj N i5 i7 nofun⟩
    hsz hsl hp2 hp9 hT hTT hl hv hok hpos hpos2 hsp fun n' t' t1 p2' p9' h' gs tk' F' N' q2 q9 hb kb => h n' t' t1 p2' p9' h' gs tk' F' (news_upds N N7 (U n' t' t1 p2' p9') kb N' (by simp) ?_) q2 q9 hb (Tk.of N7 kb (by simp))
  intro p hp hn
  simp only [List.mem_cons, List.not_mem_nil, or_false] at hp
  rcases hp with rfl | rfl | rfl | rfl | rfl | rfl | rfl
  · simp
  · simp
  all_goals exact absurd (by simp) hn
end Mine
end
section
open PySem PySem.W PyProof.Rows PySem.Calls PySem.Spec
set_option maxRecDepth 100000
namespace Mine
section
variable {prog : Program} {w : World} {A : Around} {E : Value → Shared → Prop} {s : Shared} {env : Env} {h₀ : Heap} {L : Addr} {m : PySem.Str → Option Value} {news news' : List (Addr × Obj)}
/-- the turns of a for loop, one by one; behind the last of them the else part -/
def Turns (prog : Program) (w : World) (A : Around) (E : Value → Shared → Prop) (env : Env) (x : PySem.Str) (px : Pos) (body orelse : List Stmt) (it : Value) (Q : Flow → Shared → Prop) : Nat → Shared → Prop
  | 0, s => wpAny (model prog w) A (pyNext it) (fun r s₁ => r = none ∧ wpAny (model prog w) A (execs orelse env) Q E s₁) E s
  | n + 1, s => wpAny (model prog w) A (pyNext it) (fun r s₁ => ∃ v, r = some v ∧ wpAny (model prog w) A (assign (.Name x px) env v) (fun _ s₂ => wpAny (model prog w) A (execs body env) (fun f s₃ => match f with
      | .next | .cont => Turns prog w A E env x px body orelse it Q n s₃
      | .brk => Q .next s₃
      | .ret v => Q (.ret v) s₃) E s₂) E s₁) E s

theorem For_turns {x : PySem.Str} {px pos : Pos} {iter : Expr} {body orelse : List Stmt} {Q : Flow → Shared → Prop}
    (h : wpAny (model prog w) A (eval iter env) (fun xv s₁ => wpAny (model prog w) A (pyIter xv) (fun it s₂ => ∃ n, Turns prog w A E env x px body orelse it Q n s₂) E s₁) E s)
    (hs : ∀ x, foldedSetIterable iter env x = pure x) (hE : PassesOwn (model prog w) A env E) :
    wpAny (model prog w) A (exec (.For (.Name x px) iter body orelse pos) env) Q E s := by
  refine wpAny_For (wpAny_mono h (fun xv s₁ h₁ => wpAny_mono h₁ (fun it s₂ h₂ => ?_) fun _ _ e => e) fun _ _ e => e) hs
  obtain ⟨n, hT⟩ := h₂
  refine codeAny_forLoop (R := fun r s' => match r with | .ok f => Q f s' | .error e => cameBackBy (model prog w) A env E e s') (fun k s' => Turns prog w A E env x px body orelse it Q k s') (fun k s' hI => ?_) n hT
  cases k with
  | zero =>
    refine wpAny_passesOwn hE (wpAny_mono hI (fun r s₁ h₁ => ?_) fun _ _ e => e)
    obtain ⟨rfl, h₁⟩ := h₁
    exact wpAny_passesOwn hE h₁
  | succ k =>
    refine wpAny_passesOwn hE (wpAny_mono hI (fun r s₁ h₁ => ?_) fun _ _ e => e)
    obtain ⟨v, rfl, h₁⟩ := h₁
    refine wpAny_passesOwn hE (wpAny_mono h₁ (fun _ s₂ h₂ => ?_) fun _ _ e => e)
    refine wpAny_passesOwn hE (wpAny_mono h₂ (fun f s₃ h₃ => ?_) fun _ _ e => e)
    cases f with
    | next => exact ⟨k, Nat.lt_succ_self _, h₃⟩
    | cont => exact ⟨k, Nat.lt_succ_self _, h₃⟩
    | brk => exact h₃
    | ret v => exact h₃

abbrev IsSI (o : Obj) (x : PySem.Str) (t : Tok) (i : Nat) : Prop := o.cls = .type "str_ascii_iterator" ∧ o.data = .fields #[.str x t, .int i 0]
abbrev rangeObj (a b c : Int) (t u v : Tok) : Obj := { cls := .type "range", data := .fields #[.int a t, .int b u, .int c v] }
abbrev rangeIt (x left step : Int) : Obj := { cls := .type "range_iterator", data := .fields #[rawInt x, rawInt left, rawInt step] }
inductive Del (d : Addr) : List (Addr × Obj) → List (Addr × Obj) → Prop
  | head {o r} : (∀ p ∈ r, p.1 ≠ d) → Del d ((d, o) :: r) r
  | tail {p r r'} : p.1 ≠ d → Del d r r' → Del d (p :: r) (p :: r')
theorem del_mem {d : Addr} : ∀ {l l' : List (Addr × Obj)}, Del d l l' → ∀ p ∈ l', p ∈ l ∧ p.1 ≠ d
  | _, _, .head h, p, hp => ⟨.tail _ hp, h p hp⟩
  | _, _, .tail h r, p, hp => by
    rcases List.mem_cons.mp hp with rfl | hp
    · exact ⟨.head _, h⟩
    · exact ⟨.tail _ (del_mem r p hp).1, (del_mem r p hp).2⟩

theorem pyIter_str_K {x : PySem.Str} {t : Tok} {Q : Value → Shared → Prop} (F : Fr h₀ L s.heap m) (N : News h₀ L s.heap news) (ha : x.cps.all (· < 128) = true)
    (h : ∀ I o h', IsSI o x t 0 → Fr h₀ L h' m → News h₀ L h' ((I, o) :: news) → (∀ p ∈ news, p.1 < I) → Q (.ref I) { s with heap := h' }) : wpAny (model prog w) A (pyIter (.str x t)) Q E s :=
  wpAny_pyIter_ascii ha (h _ { cls := .type "str_ascii_iterator", data := .fields #[.str x t, .int 0 0] } _ ⟨rfl, rfl⟩ (F.push _) (News.push F N _) fun p hp => Heap.lt_size (N p hp).1)

theorem next_str_K {I : Addr} {o : Obj} {x : PySem.Str} {t : Tok} {i c : Nat} {news' : Obj → List (Addr × Obj)} {Q : Option Value → Shared → Prop} (F : Fr h₀ L s.heap m) (N : News h₀ L s.heap news) (ho : IsSI o x t i) (U : ∀ o', Upd I o o' news (news' o')) (hx : x.cps[i]? = some c)
    (h : ∀ o' h' t', IsSI o' x t (i + 1) → Fr h₀ L h' m → News h₀ L h' (news' o') → Q (some (.str ⟨#[c]⟩ t')) { s with heap := h', toks := s.toks + 1 }) : wpAny (model prog w) A (pyNext (.ref I)) Q E s := by
  have hm := upd_here (U o)
  have z := N _ hm
  refine wpAny_pyNext_ascii_item ⟨o, z.1, ho.1, ho.2⟩ hx fun h' hit hs => ?_
  obtain ⟨o', e1, e2, e3⟩ := hit
  exact h o' h' _ ⟨e2, e3⟩ (F.change hs z.2.1 z.2.2) (news_after1 N (U o') (fun b y hb e => hs.extBut b y hb e) e1)

theorem end_str_K {I : Addr} {o : Obj} {x : PySem.Str} {t : Tok} {i : Nat} {Q : Option Value → Shared → Prop} (hh : A.handled = none) (F : Fr h₀ L s.heap m) (N : News h₀ L s.heap news) (ho : IsSI o x t i) (hm : (I, o) ∈ news) (D : Del I news news') (hx : x.cps[i]? = none)
    (h : ∀ h', Fr h₀ L h' m → News h₀ L h' news' → Q none { s with heap := h' }) : wpAny (model prog w) A (pyNext (.ref I)) Q E s := by
  have z := N _ hm
  refine wpAny_pyNext_ascii_end hh ⟨o, z.1, ho.1, ho.2⟩ hx fun h' hs => h h' (fr_after1 F N hm (fun b y hb e => hs b y hb e)) fun p hp => ?_
  obtain ⟨h1, h2⟩ := del_mem D p hp
  exact ⟨hs _ _ h2 (N p h1).1, (N p h1).2⟩

theorem pyIter_range_K {r : Addr} {a b c : Int} {t u v : Tok} {Q : Value → Shared → Prop} (F : Fr h₀ L s.heap m) (N : News h₀ L s.heap news) (hr : (r, rangeObj a b c t u v) ∈ news) (hs : Builtin.Range.small a b c = true)
    (h : ∀ I h', Fr h₀ L h' m → News h₀ L h' ((I, rangeIt a (Builtin.Range.rangeSize a b c) c) :: news) → (∀ p ∈ news, p.1 < I) → Q (.ref I) { s with heap := h' }) : wpAny (model prog w) A (pyIter (.ref r)) Q E s :=
  wpAny_pyIter_range (N _ hr).1 hs (h _ _ (F.push _) (News.push F N _) fun p hp => Heap.lt_size (N p hp).1)

theorem next_range_K {I : Addr} {x left step : Int} {Q : Option Value → Shared → Prop} (F : Fr h₀ L s.heap m) (N : News h₀ L s.heap news) (U : Upd I (rangeIt x left step) (rangeIt (x + step) (left - 1) step) news news') (hl : 0 < left)
    (h : ∀ h' t', Fr h₀ L h' m → News h₀ L h' news' → Q (some (.int x t')) { s with heap := h', toks := s.toks + 1 }) : wpAny (model prog w) A (pyNext (.ref I)) Q E s := by
  have z := N _ (upd_here U)
  exact wpAny_pyNext_range_item z.1 hl fun h' hit hs => h h' _ (F.change hs z.2.1 z.2.2) (news_after1 N U (fun b y hb e => hs.extBut b y hb e) hit)

theorem end_range_K {I : Addr} {x left step : Int} {Q : Option Value → Shared → Prop} (hh : A.handled = none) (F : Fr h₀ L s.heap m) (N : News h₀ L s.heap news) (hm : (I, rangeIt x left step) ∈ news) (D : Del I news news') (hl : left ≤ 0)
    (h : ∀ h', Fr h₀ L h' m → News h₀ L h' news' → Q none { s with heap := h' }) : wpAny (model prog w) A (pyNext (.ref I)) Q E s := by
  have z := N _ hm
  refine wpAny_pyNext_range_end hh z.1 hl fun h' hs => h h' (fr_after1 F N hm (fun b y hb e => hs b y hb e)) fun p hp => ?_
  obtain ⟨h1, h2⟩ := del_mem D p hp
  exact ⟨hs _ _ h2 (N p h1).1, (N p h1).2⟩

theorem range_K {a b c : Int} {t u v : Tok} {Q : Value → Shared → Prop} (F : Fr h₀ L s.heap m) (N : News h₀ L s.heap news) (hc : c ≠ 0) (hp : Builtin.divisionGoesByPylong (b - a) c = false)
    (h : ∀ R h' tk t₁ u₁ v₁, Fr h₀ L h' m → News h₀ L h' ((R, rangeObj a b c t₁ u₁ v₁) :: news) → (∀ p ∈ news, p.1 < R) → Q (.ref R) { s with heap := h', toks := tk }) :
    wpAny (model prog w) A (call (.type "range") [.int a t, .int b u, .int c v]) Q E s :=
  call_range_3 hc (h _ _ _ _ _ _ (F.push _) (News.push F N (rangeObj a b c _ _ _)) fun p hq => Heap.lt_size (N p hq).1) (.inl hp)
theorem turns_zero {x : PySem.Str} {px : Pos} {body orelse : List Stmt} {it : Value} {Q : Flow → Shared → Prop} (h : wpAny (model prog w) A (pyNext it) (fun r s₁ => r = none ∧ wpAny (model prog w) A (execs orelse env) Q E s₁) E s) :
    Turns prog w A E env x px body orelse it Q 0 s := h
theorem turns_succ {x : PySem.Str} {px : Pos} {body orelse : List Stmt} {it : Value} {Q : Flow → Shared → Prop} {n : Nat} (h : wpAny (model prog w) A (pyNext it) (fun r s₁ => ∃ v, r = some v ∧ wpAny (model prog w) A (assign (.Name x px) env v) (fun _ s₂ => wpAny (model prog w) A (execs body env) (fun f s₃ => match f with
      | .next | .cont => Turns prog w A E env x px body orelse it Q n s₃
      | .brk => Q .next s₃
      | .ret v => Q (.ret v) s₃) E s₂) E s₁) E s) :
    Turns prog w A E env x px body orelse it Q (n + 1) s := h
end
theorem size_down {a : Int} (h0 : 0 ≤ a) : Builtin.Range.rangeSize a 0 (-1) = a := by
  unfold Builtin.Range.rangeSize
  simp only [show ¬ ((-1 : Int) > 0) by decide, if_false, show (- (-1 : Int)) = 1 by decide, Int.ediv_one]
  split <;> omega
theorem small_down {a : Int} (h0 : 0 ≤ a) (h1 : a ≤ 1000) : Builtin.Range.small a 0 (-1) = true := by
  unfold Builtin.Range.small
  rw [size_down h0]
  unfold Builtin.Range.rangeFitsLong
  simp
  omega
theorem last_at {its : Array Value} {v : Value} : (its.push v)[((((its.push v).size : Nat) : Int) - 1).toNat]? = some v := by
  have e : ((((its.push v).size : Nat) : Int) - 1).toNat = its.size := by rw [Array.size_push]; omega
  rw [e]
  simp
end Mine
end
section
open PySem PySem.W PyProof.Rows PySem.Calls PySem.Spec
set_option maxRecDepth 100000
namespace Mine
theorem last_ix {its : Array Value} {v : Value} : ((((its.push v).size : Nat) : Int) - 1) = ((its.size : Nat) : Int) := by rw [Array.size_push]; omega
theorem pop_last_K (w : World) {p : Program} {loose : List PySem.Str} {mean : ExcName → Option Value} {mg mb : PySem.Str → Option Value} (dp un : Nat) (gd : Option (List Code)) (cn : PySem.Str) (cs : Scope) (a : Addr) (ccd : Value) (cl : List (PySem.Str × Addr)) (outer : List Env) (A₀ : Around) (base h₀ : Heap) (L : Addr) (m : PySem.Str → Option Value) (s : Shared) (Q E : Value → Shared → Prop) (x dx : Addr) (its : Array Value) (v : Value) (iz : Int) (ti : Tok) (n n1 : Nat) (e1 : Int) (k1 t0 : Tok) (news : List (Addr × Obj)) (news' : Nat → List (Addr × Obj))
    (B : Below A₀ base outer h₀) (F : Fr h₀ L s.heap m) (X : (Mine.hd.heap_1 w.params).In h₀) (T : Top p loose mean mg mb h₀) (hk : cs.kind = .function) (hd : dp + 4 < recursionLimit) (hu : un + 40 < cLine)
    (N : News h₀ L s.heap news) (U : ∀ n', Upds [(x, accO dx (its.push v) n)] [(x, accO dx its n')] news (news' n')) (hdx : (dx, dictOf [⟨e1, .str (Str.ofString "_initial_size") k1, .int 0 t0⟩] n1) ∈ news) (hsz : its.size ≤ 900) (hiz : iz = ((its.size : Nat) : Int))
    (h : ∀ D n' h' tk', Fr h₀ L h' m → News h₀ L h' ((D, W.listOf #[v] 0) :: news' n') → (∀ p ∈ news, p.1 ≠ D) → Q (.ref D) { s with heap := h', toks := tk' })
    : wpAny (model PySem.Challenge.rw_wn0105_01.row.prog w) (ktrTop dp un gd cn cs L a ccd cl outer) (call (.ref 172) [.ref x, .int iz ti]) Q E s := by
  subst hiz
  have e1' : (its.push v).extract 0 its.size = its := by
    apply Array.toList_inj.mp
    simp [List.extract_eq_drop_take]
  have e2' : (its.push v).extract its.size (its.push v).size = #[v] := by
    apply Array.toList_inj.mp
    simp [List.extract_eq_drop_take]
  refine pop_from_K w dp un gd cn cs a ccd cl outer A₀ base h₀ L m s Q E x dx (its.push v) its.size ti n n1 e1 k1 t0 news news' B F X T hk hd hu N (fun n' => by rw [e1']; exact U n') hdx (by rw [Array.size_push]; omega) (by rw [Array.size_push]; omega) fun D n' h' tk' F' N' hne => h D n' h' tk' F' (by rw [e2'] at N'; exact N') hne
end Mine
end
section
open PySem PySem.W PyProof.Rows PySem.Calls PySem.Spec
set_option maxRecDepth 100000
namespace Mine
local macro_rules | `(tactic| k_mem) => `(tactic| assumption)
local macro_rules | `(tactic| k_inst) => `(tactic| (refine' Mine.InstAt.ofAcc ?N ?h1 ?h2; (case N => k_asm); (case h1 => k_mem); (case h2 => k_mem)))
local macro_rules | `(tactic| k_ne) => `(tactic| (refine neN ?_; (try dsimp only); first | exact Mine.NeA.ne (by with_reducible assumption) | exact Mine.NeA.ne' (by with_reducible assumption) | omega))
local macro_rules | `(tactic| walk_at $s:str) => `(tactic| k_extra $s)
theorem words_C6 : True := by
  k_with_none
  w_top off
  k_with "myenter" => (first | ((refine' Mine.enterR (by k_asm) (by k_asm) (by k_asm) (by k_asm) (by k_asm) (by exact rfl) (by exact rfl) (by assumption) (by k_is) (by k_is) (by ktr_room) (by first | exact BindsTo.of_eq rfl | exact binds_K (by k_in) rfl (by k_is) rfl rfl rfl) (by exact locs rfl) ?_ (by exact rfl) (by exact rfl) (by exact rfl) (by decide); k_whole; intro g' L' h' hG' FG' F' N' B' X' T' l1; (try k_lt l1); (try dsimp only); (try k_lift B'); (try k_fold))) | fail "no")
  k_with "mylen" => (first | (first | omega | (simp only [PySem.Str.length_append, PySem.sizeLine_eq] at *; omega)) | fail "no")
  k_with "getMethod ref" => (first | ((k_here; k_dflt (first | refine' Mine.method_fnL (by k_in) (by k_inst) (by k_is) (by k_is) (by k_is) (by k_is) (by exact Mine.shadow_dict (by k_get)) ?_; k_whole | refine' Mine.method_biL (by k_in) (by k_inst) (by k_is) (by k_is) (by k_is) (by exact PySem.F.type_list_append) (by exact Mine.shadow_dict (by k_get)) ?_; k_whole))) | fail "no")
  k_with "call builtin:list.append" => (first | ((k_here; (with_reducible show wpAny _ _ (call (Value.builtin _) [Value.ref _, _]) _ _ _); k_dflt (refine' Mine.append_accL (by k_asm) (by k_asm) (by k_asm) (by k_upd) (by k_mem) (by k_is) ?_ (by walk_at "mylen"); k_whole); intro h' F' N'; (try k_sweep))) | fail "no")
  k_with "getAttr ref" => (first | ((k_here; k_dflt (refine' Mine.get_ownL' (by k_asm) (by k_asm) (by k_inst) (by k_is) (by k_is) (by k_is) (by k_is) (by k_is) (by k_is) (by k_get) (by k_handed) ?_; k_whole))) | fail "no")
  k_with "mytups" => (first | (first | assumption | exact Mine.TupsAt.keeps (by assumption) (fun b o e _ => Fr.keep (by k_asm) b o e)) | fail "no")
  k_with "eval GeneratorExp" => (first | ((k_here; k_dflt (first | ((with_reducible show wpAny _ _ (eval (Expr.GeneratorExp (Expr.BinOp _ _ _ _) _ _ _) _) _ _ _); refine' Mine.gen_len_K (by k_asm) (by k_asm) (by k_asm) (by k_asm) (by exact rfl) (by exact rfl) (by exact rfl) (by exact rfl) (by exact rfl) (by ktr_room) (by k_mem) (by k_mem) (by (intro ps'; k_upd)) (by assumption) (by walk_at "mytups") (by assumption) ?_) | ((with_reducible show wpAny _ _ (eval (Expr.GeneratorExp (Expr.Call _ _ _ _) _ _ _) _) _ _ _); refine' Mine.gen_join_K (by exact rfl) (by k_asm) (by k_asm) (by k_asm) (by k_asm) (by exact rfl) (by exact rfl) (by exact rfl) (by exact rfl) (by exact rfl) (by ktr_room) (by k_mem) (by k_mem) (by (intro ps'; k_upd)) (by assumption) (by walk_at "mytups") (by assumption) ?_)); intro a' ps' h' gs' tk' lo' F' N' hps' hAB' hlo' hlo2' G'; (try dsimp only at N'))) | fail "no")
  k_with "call builtin:sum" => (first | ((k_here; k_dflt (refine' Mine.sum_len_K (by k_asm) (by k_asm) (by refine Mine.Gen.toks (by assumption) ?_; first | exact Nat.le_succ _ | exact Nat.le_refl _) (by exact (Mine.TupsAt.size (by assumption)).symm) (by assumption) (by assumption) ?_); intro h' gs' tk' t' F' N' hAB' hK')) | fail "no")
  k_with "call builtin:str.join" => (first | ((k_here; (with_reducible show wpAny _ _ (call (Value.builtin _) [Value.str _ _, Value.ref _]) _ _ _); k_dflt (refine' Mine.join_str_K (by k_asm) (by k_asm) (by refine Mine.Gen.toks (by assumption) ?_; first | exact Nat.le_succ _ | exact Nat.le_refl _) (by exact (Mine.TupsAt.size (by assumption)).symm) (by assumption) (by assumption) (by assumption) (by assumption) ?_); intro h' gs' tk' t' F' N' hAB' hK')) | fail "no")
  k_with "ksenter" => (first | ((refine' Mine.ks_codeR (by k_asm) (by k_asm) (by k_asm) (by k_asm) (by k_asm) (by exact rfl) (by exact rfl) (by assumption) (by k_is) (by k_is) (by ktr_room) (by first | exact BindsTo.of_eq rfl | exact binds_K (by k_in) rfl (by k_is) rfl rfl rfl) (by exact locs rfl) ?_ (by decide) (by exact rfl) (by exact rfl) (by exact rfl); intro g' L' h' hG' FG' F' N' B' X' T' l1; (try k_lt l1); (try dsimp only); (try k_lift B'); (try k_fold))) | fail "no")
  k_with "getMethod ref" => (first | ((k_here; k_dflt (refine' Mine.meth_len_K (by k_asm) (by k_asm) (by k_asm) (by k_mem) (by k_inst) (by k_is) (by k_is) (by ks_is) (by decide) (by first | exact Mine.ty_len | exact Mine.ty_pop | exact Mine.ty_init) (by first | exact Or.inl ⟨rfl, rfl⟩ | exact Or.inr ⟨rfl, rfl⟩) (by first | exact Mine.nc_len | exact Mine.nc_pop | exact Mine.nc_init) (by decide +kernel) ?_; intro q' h' F' N' l1; (try k_lt l1)))) | fail "no")
  k_with "callWith ref" => (first | ((k_here; k_dflt (refine' Mine.callWith_B (by k_asm) (by k_mem) (by first | exact Or.inl rfl | exact Or.inr rfl) ?_))) | fail "no")
  k_with "call ref" => (first | ((k_here; k_dflt (first | (refine' Mine.call_len_K (by k_asm) (by k_mem) (by k_mem) ?_; intro t' tk') | (refine' Mine.call_pop_K (by k_asm) (by k_asm) (by k_asm) (by k_mem) (by k_upd) (by k_mem) (by exact rfl) (by rfl) (by k_is) (by k_is) (by walk_at "mylen") ?_; intro h' F' N')))) | fail "no")
  k_with "newsx" => (first | (first | (intro _; exact News.nil) | (intro nx; refine' Mine.News.one nx (by k_mem) (by walk_at "newsx"))) | fail "no")
  k_with "news" => (first | (first | assumption | (refine' Mine.News.one (by assumption) (by k_mem) (by walk_at "newsx")) | (refine News.perm (by assumption) ?_; simp; done) | (refine News.perm (by assumption) ?_; intro p hp; simp only [List.mem_cons, List.not_mem_nil, or_false] at hp ⊢; rcases hp with rfl | hp <;> simp_all)) | fail "no")
  k_with "kb" => (first | (exact Mine.KB.fin (by assumption) (by assumption)) | fail "no")
  k_with "splitne" => (first | ((repeat ((with_reducible rename Mine.NeA _ _ ∧ _ => kc'); (first | (refine Mine.sp16 kc' ?_; intro _ _ _ _ _ _ _ _ _ _ _ _ _ _ _ _ _) | (refine Mine.sp8 kc' ?_; intro _ _ _ _ _ _ _ _ _) | (refine Mine.sp4 kc' ?_; intro _ _ _ _ _) | (refine Mine.sp2 kc' ?_; intro _ _ _) | (refine Mine.sp1 kc' ?_; intro _ _)); clear kc'))) | fail "no")
  k_with "upds" => (first | (first | exact Mine.Upds.nil | (refine' Mine.Upds.cons (by k_upd) (by walk_at "upds"))) | fail "no")
  k_with "mylens" => (first | (assumption) | fail "no")
  k_with "call ref" => (first | ((k_here; k_dflt ((first | with_reducible show wpAny _ _ (call (Value.ref 217) _) _ _ _ | with_reducible show wpAny _ _ (call (Value.ref (nat_lit 217)) _) _ _ _); refine' Mine.part_count_K _ _ _ _ _ _ _ _ _ _ _ _ _ _ _ _ _ _ _ _ _ _ _ _ _ _ _ (by k_asm) (by k_asm) (by k_asm) (by k_asm) (by first | assumption | exact rfl) (by (dsimp only [ktrTop, Around.deeper]; omega)) (by (dsimp only [ktrTop, Around.deeper]; omega)) (by k_asm) (by k_mem) (by k_mem) ?_); intro h' tk' t' F' N')) | fail "no")
  k_with "call ref" => (first | ((k_here; k_dflt ((first | with_reducible show wpAny _ _ (call (Value.ref 187) _) _ _ _ | with_reducible show wpAny _ _ (call (Value.ref (nat_lit 187)) _) _ _ _); refine' Mine.len_K _ _ _ _ _ _ _ _ _ _ _ _ _ _ _ _ _ _ _ _ _ _ _ _ _ _ _ _ _ _ (by k_asm) (by k_asm) (by k_asm) (by k_asm) (by first | assumption | exact rfl) (by (dsimp only [ktrTop, Around.deeper]; omega)) (by (dsimp only [ktrTop, Around.deeper]; omega)) (by k_asm) (by k_mem) (by k_mem) (by (intro ps'; walk_at "upds")) (by assumption) (by walk_at "mytups") (by walk_at "mylens") (by walk_at "mylen") ?_); intro ps' h' gs' tk' t' F' N' hps' hAB' hlb'; (try dsimp only at N'); (try (refine Mine.len_back (by assumption) ?_)))) | fail "no")
  k_with "call ref" => (first | ((k_here; k_dflt ((first | with_reducible show wpAny _ _ (call (Value.ref 194) _) _ _ _ | with_reducible show wpAny _ _ (call (Value.ref (nat_lit 194)) _) _ _ _); refine' Mine.str_K _ _ _ _ _ _ _ _ _ _ _ _ _ _ _ _ _ _ _ _ _ _ _ _ _ _ _ _ _ _ (by k_asm) (by k_asm) (by k_asm) (by k_asm) (by first | assumption | exact rfl) (by (dsimp only [ktrTop, Around.deeper]; omega)) (by (dsimp only [ktrTop, Around.deeper]; omega)) (by k_asm) (by k_mem) (by k_mem) (by (intro ps'; walk_at "upds")) (by assumption) (by walk_at "mytups") (by walk_at "mylens") (by walk_at "mylen") ?_); intro ps' h' gs' tk' t' F' N' hps' hAB' hTk'; (try dsimp only at N'); (try dsimp only [W.StrBack]))) | fail "no")
  k_with "call ref" => (first | ((k_here; k_dflt ((first | with_reducible show wpAny _ _ (call (Value.ref 164) _) _ _ _ | with_reducible show wpAny _ _ (call (Value.ref (nat_lit 164)) _) _ _ _); refine' Mine.push_K _ _ _ _ _ _ _ _ _ _ _ _ _ _ _ _ _ _ _ _ _ _ _ _ _ _ _ _ _ _ _ _ (by k_asm) (by k_asm) (by k_asm) (by k_asm) (by first | assumption | exact rfl) (by (dsimp only [ktrTop, Around.deeper]; omega)) (by (dsimp only [ktrTop, Around.deeper]; omega)) (by k_asm) (by k_mem) (by (intro tp'; walk_at "upds")) (by walk_at "mylen") ?_); intro tp' h' tk' F' N' hne'; (try dsimp only at N'); (replace hne' := Mine.allNe_of hne'; dsimp only [Mine.AllNe] at hne'; walk_at "splitne"))) | fail "no")
  k_with "subscriptTail Name Slice ref ref" => (first | ((k_here; (with_reducible show wpAny _ _ (subscriptTail _ (PySem.Expr.Slice _ _ none _) (Value.ref _) (Value.ref _)) _ _ _); k_dflt (refine' Mine.slice_K (by k_asm) (by k_asm) (by k_asm) (by k_mem) (by k_mem) (by k_is) (by k_is) (by k_is) (by kmk_part) (by kmk_part) (by walk_at "mylen") (by first | exact Mine.pick_from (by assumption) | exact rfl) ?_ (by with_unfolding_all rfl) (by kmk_pure)); intro D' h' F' N' l1; (try k_lt l1))) | fail "no")
  k_with "setItem ref ref" => (first | ((k_here; k_dflt (refine' Mine.setitem_K (by k_asm) (by k_asm) (by k_asm) (by kmk_list) (by (intro n'; k_upd)) (by k_mem) (by k_is) (by k_is) (by k_is) (by kmk_part) (by kmk_part) (by walk_at "mylen") (by first | walk_at "mylen" | (simp; done)) (by first | exact Mine.set_from (by assumption) | exact Mine.set_all | exact rfl) ?_); intro n' h' F' N'; (try dsimp only at N'))) | fail "no")
  k_with "setAttr ref" => (first | ((k_here; k_dflt (refine' Mine.set_dictL (by k_asm) (by k_asm) (by k_asm) (by k_inst) (by exact rfl) (by k_is) (by exact Mine.mro220 _) (by k_is) (by k_is) (by k_get) (by k_put) (by k_upd) (by exact Nat.le_of_ble_eq_true rfl) ?_; k_whole; intro h' F' N'; (try k_sweep)))) | fail "no")
  k_with "wpAt" => (first | (((with_reducible show _root_.PySem.wpAt _ _ _ (execs (_ :: _) _) _ _ _); refine ks_wpAt_execs_cons ?_)) | fail "no")
  k_with "wpAt" => (first | ((ks_step "eval Call"; k_dflt (refine ks_wpAt_MethodCall ?_))) | fail "no")
  k_with "truthy ref" => (first | ((k_here; k_dflt (refine' Mine.truthy_lenL (by k_in) (by k_inst) (by k_is) (by k_is) (by k_is) ?_; k_whole))) | fail "no")
  k_with "Exists" => (first | ((refine ⟨_, _, rfl, ?_⟩)) | fail "no")
  k_with "units" => (first | (first | k_units | (dsimp only [ktrTop, Around.deeper, Around.in1]; omega) | (simp only [ktrTop, Around.deeper, Around.in1, Around.under]; omega)) | fail "no")
  k_with "call type:str" => (first | ((k_here; (with_reducible show wpAny _ _ (call (Value.type "str") [Value.ref _]) _ _ _); k_dflt (refine' kso_call (by walk_at "units") (by k_in) (by k_inst) (by k_is) (by k_is) ?_; k_whole))) | fail "no")
  k_with "call ref" => (first | ((k_here; k_dflt ((first | with_reducible show wpAny _ _ (call (Value.ref 180) _) _ _ _ | with_reducible show wpAny _ _ (call (Value.ref (nat_lit 180)) _) _ _ _); refine' Mine.pop_K _ _ _ _ _ _ _ _ _ _ _ _ _ _ _ _ _ _ _ _ _ _ _ _ _ _ _ _ _ (by k_asm) (by k_asm) (by k_asm) (by k_asm) (by first | assumption | exact rfl) (by (dsimp only [ktrTop, Around.deeper]; omega)) (by (dsimp only [ktrTop, Around.deeper]; omega)) (by k_asm) (by walk_at "upds") (by k_mem) (by walk_at "mylen") ?_); intro h' tk' F' N'; (try dsimp only at N'))) | fail "no")
  k_with "call ref" => (first | ((k_here; k_dflt ((first | with_reducible show wpAny _ _ (call (Value.ref 172) _) _ _ _ | with_reducible show wpAny _ _ (call (Value.ref (nat_lit 172)) _) _ _ _); refine' Mine.pop_from_K _ _ _ _ _ _ _ _ _ _ _ _ _ _ _ _ _ _ _ _ _ _ _ _ _ _ _ _ _ _ (by k_asm) (by k_asm) (by k_asm) (by k_asm) (by first | assumption | exact rfl) (by (dsimp only [ktrTop, Around.deeper]; omega)) (by (dsimp only [ktrTop, Around.deeper]; omega)) (by k_asm) (by (intro n'; walk_at "upds")) (by k_mem) (by walk_at "mylen") (by walk_at "mylen") ?_); intro D' n' h' tk' F' N' hne'; (try dsimp only at N'); (replace hne' := Mine.allNe_of hne'; dsimp only [Mine.AllNe] at hne'; walk_at "splitne"))) | fail "no")
  k_with "call ref" => (first | ((k_here; k_dflt ((first | with_reducible show wpAny _ _ (call (Value.ref 202) _) _ _ _ | with_reducible show wpAny _ _ (call (Value.ref (nat_lit 202)) _) _ _ _); refine' Mine.reset_K _ _ _ _ _ _ _ _ _ _ _ _ _ _ _ _ _ _ _ _ _ _ _ _ _ _ _ (by k_asm) (by k_asm) (by k_asm) (by k_asm) (by first | assumption | exact rfl) (by (dsimp only [ktrTop, Around.deeper]; omega)) (by (dsimp only [ktrTop, Around.deeper]; omega)) (by k_asm) (by k_mem) (by (intro n' t'; walk_at "upds")) (by walk_at "mylen") ?_); intro n' t' h' tk' F' N'; (try dsimp only at N'))) | fail "no")
  k_with "call ref" => (first | ((k_here; k_dflt ((first | with_reducible show wpAny _ _ (call (Value.ref 202) _) _ _ _ | with_reducible show wpAny _ _ (call (Value.ref (nat_lit 202)) _) _ _ _); refine' Mine.reset2_K _ _ _ _ _ _ _ _ _ _ _ _ _ _ _ _ _ _ _ _ _ _ _ _ _ _ _ _ _ _ (by k_asm) (by k_asm) (by k_asm) (by k_asm) (by first | assumption | exact rfl) (by (dsimp only [ktrTop, Around.deeper]; omega)) (by (dsimp only [ktrTop, Around.deeper]; omega)) (by k_asm) (by k_mem) (by k_mem) (by (intro n' t'; walk_at "upds")) (by walk_at "mylen") (by first | exact Nat.le_of_ble_eq_true rfl | walk_at "mylen") ?_); intro n' t' h' tk' F' N'; (try dsimp only at N'))) | fail "no")
  k_with "istup" => (first | (first | exact Mine.isTup_news (by k_asm) (by k_mem) | exact Mine.isTup_fr (by assumption) (by k_asm)) | fail "no")
  k_with "compareOp NotEq ref ref" => (first | ((k_here; k_dflt (refine Mine.tup_ne (by walk_at "istup") (by walk_at "istup") (by assumption) (by first | assumption | decide +kernel) (by first | assumption | decide +kernel) (by first | assumption | decide +kernel) (by first | assumption | decide +kernel) (by walk_at "units") ?_))) | fail "no")
  k_with "call ref" => (first | ((k_here; k_dflt ((first | with_reducible show wpAny _ _ (call (Value.ref 209) _) _ _ _ | with_reducible show wpAny _ _ (call (Value.ref (nat_lit 209)) _) _ _ _); refine' Mine.onlyws_K _ _ _ _ _ _ _ _ _ _ _ _ _ _ _ _ _ _ _ _ _ _ _ _ _ _ _ _ _ _ (by k_asm) (by k_asm) (by k_asm) (by k_asm) (by first | assumption | exact rfl) (by (dsimp only [ktrTop, Around.deeper]; omega)) (by (dsimp only [ktrTop, Around.deeper]; omega)) (by k_asm) (by k_mem) (by k_mem) (by k_mem) (by k_mem) (by (intro p2' p9'; walk_at "upds")) (by walk_at "mylen") (by assumption) (by assumption) (by walk_at "mytups") (by walk_at "mylens") (by assumption) (by assumption) ?_); intro p2' p9' h' gs' tk' F' N' hp2' hp9' hAB'; (try dsimp only at N'))) | fail "no")
  k_with "eval Call" => (first | ((k_here; (with_reducible show wpAny _ _ (eval (Expr.Call (Expr.Attribute _ _ _) [Expr.Starred _ _] [] _) _) _ _ _); k_dflt (refine' Mine.CallAttr_star ?_ (by with_unfolding_all rfl)))) | fail "no")
  k_with "eval Call Attribute" => (first | ((k_here; (with_reducible show wpAny _ _ (eval (Expr.Call (Expr.Attribute _ _ _) [Expr.Starred _ _] [] _) _) _ _ _); k_dflt (refine' Mine.CallAttr_star ?_ (by with_unfolding_all rfl)))) | fail "no")
  k_with "getAttr ref" => (first | ((k_here; k_dflt (refine' Mine.get_boundL (by k_inst) (by k_asm) (by k_asm) (by k_asm) (by k_is) (by k_is) (by k_is) (by k_is) (by k_is) (by k_is) (by k_is) (by k_is) (by decide +kernel) (by k_get) ?_; k_whole); intro q' h' F' N' l1; (try k_lt l1))) | fail "no")
  k_with "callWith ref" => (first | ((k_here; (with_reducible show wpAny _ _ (callWith _ (Value.ref _) _ (backTo _ (starEach [Expr.Starred _ _] _)) []) _ _ _); k_dflt (refine' Mine.callWith_star (by k_asm) (by k_asm) (by k_mem) (by exact Mine.func164 _) ?_))) | fail "no")
  k_with "StarOf ref" => (first | ((k_here; k_dflt (refine' Mine.star_tup (by k_asm) (by k_asm) (by walk_at "istup") (by exact Nat.le_of_ble_eq_true rfl) ?_; k_whole); intro h' F' N'; (try dsimp only [List.nil_append, List.cons_append]))) | fail "no")
  k_with "And" => (first | ((refine ⟨⟨by k_in, News.get (by k_asm) (by k_mem)⟩, ?_⟩)) | fail "no")
  k_with "call ref" => (first | ((k_here; k_dflt (refine' call_meth (by k_asm) (by k_mem) ?_; refine' Mine.push_KC _ _ _ _ _ _ _ _ _ _ _ _ _ _ _ _ _ _ _ _ _ _ _ _ _ _ _ _ _ _ _ _ (by k_asm) (by k_asm) (by k_asm) (by k_asm) (by first | assumption | exact rfl) (by (dsimp only [ktrTop, Around.deeper]; omega)) (by (dsimp only [ktrTop, Around.deeper]; omega)) (by k_asm) (by k_mem) (by (intro tp'; walk_at "upds")) (by walk_at "mylen") ?_); intro tp' h' tk' F' N' hne'; (try dsimp only at N'); (replace hne' := Mine.allNe_of hne'; dsimp only [Mine.AllNe] at hne'; walk_at "splitne"))) | fail "no")
  k_with "mytups" => (first | (first | exact Mine.TupsAt.keeps (by assumption) (fun b o e _ => Fr.keep (by k_asm) b o e) | exact Mine.TupsAt.push (by walk_at "mytups") (by walk_at "istup")) | fail "no")
  k_with "mylen" => (first | (first | omega | (simp only [Array.size_push, Array.size_extract]; omega)) | fail "no")
  k_with "ite" => (first | ((refine Mine.ite_so (by first | with_reducible assumption | exact decide_eq_true (by with_reducible assumption)) ?_)) | fail "no")
  k_with "exec For" => (first | ((k_here; k_dflt (refine' Mine.For_turns ?_ (by (intro _; with_unfolding_all rfl)) (by passes_own)))) | fail "no")
  k_with "pyIter str" => (first | ((k_here; k_dflt (refine' Mine.pyIter_str_K (by k_asm) (by k_asm) (by decide +kernel) ?_); intro I' o' h' hs' F' N' l1; (try k_lt l1); refine ⟨1, ?_⟩; refine Mine.turns_succ ?_)) | fail "no")
  k_with "call type:range" => (first | ((k_here; k_dflt (refine' Mine.range_K (by k_asm) (by k_asm) (by decide) (by exact PyProof.noPylong_small (by walk_at "mylen")) ?_); intro R' h' tk' t1' u1' v1' F' N' l1; (try k_lt l1))) | fail "no")
  k_with "pyNext ref" => (first | ((k_here; k_dflt (first | (refine' Mine.next_str_K (by k_asm) (by k_asm) (by assumption) (by (intro o'; k_upd)) (by exact rfl) ?_; intro o' h' t' hs' F' N'; (try dsimp only at N'); refine ⟨_, rfl, ?_⟩) | (refine' Mine.next_range_K (by k_asm) (by k_asm) (by k_upd) (by walk_at "mylen") ?_; intro h' t' F' N'; (try dsimp only at N'); refine ⟨_, rfl, ?_⟩)))) | fail "no")
  k_with "exec For Name Call" => (first | ((k_here; k_dflt (refine' Mine.For_turns ?_ (by (intro _; with_unfolding_all rfl)) (by passes_own)))) | fail "no")
  k_with "exec For Name Call cons nil" => (first | ((k_here; k_dflt (refine' Mine.For_turns ?_ (by (intro _; with_unfolding_all rfl)) (by passes_own)))) | fail "no")
  k_with "exec For Name Call cons cons" => (first | ((k_here; k_dflt (refine' Mine.For_turns ?_ (by (intro _; with_unfolding_all rfl)) (by passes_own)))) | fail "no")
  k_with "exec For Name Call nil cons" => (first | ((k_here; k_dflt (refine' Mine.For_turns ?_ (by (intro _; with_unfolding_all rfl)) (by passes_own)))) | fail "no")
  k_with "pyIter ref" => (first | ((k_here; k_dflt (refine' Mine.pyIter_range_K (by k_asm) (by k_asm) (by k_mem) (by exact Mine.small_down (by walk_at "mylen") (by walk_at "mylen")) ?_); intro I' h' F' N' l1; (try k_lt l1); (try (rw [Mine.size_down (by walk_at "mylen")] at N')); refine ⟨1, ?_⟩; refine Mine.turns_succ ?_)) | fail "no")
  k_with "subscriptTail" => (first | ((k_here; (with_reducible show wpAny _ _ (subscriptTail (PySem.Expr.Name _ _) _ (Value.ref _) (Value.int _ _)) _ _ _); k_dflt (refine' Mine.index_K (by k_asm) (by k_asm) (by k_asm) (by k_mem) (by k_mem) (by k_is) (by k_is) (by k_is) (by walk_at "mylen") (by walk_at "mylen") (by exact Mine.last_at) ?_ (by with_unfolding_all rfl) (by kmk_pure)))) | fail "no")
  k_with "call ref" => (first | ((k_here; k_dflt ((first | with_reducible show wpAny _ _ (call (Value.ref 172) _) _ _ _ | with_reducible show wpAny _ _ (call (Value.ref (nat_lit 172)) _) _ _ _); refine' Mine.pop_last_K _ _ _ _ _ _ _ _ _ _ _ _ _ _ _ _ _ _ _ _ _ _ _ _ _ _ _ _ _ _ _ (by k_asm) (by k_asm) (by k_asm) (by k_asm) (by first | assumption | exact rfl) (by (dsimp only [ktrTop, Around.deeper]; omega)) (by (dsimp only [ktrTop, Around.deeper]; omega)) (by k_asm) (by (intro n'; walk_at "upds")) (by k_mem) (by walk_at "mylen") (by exact Mine.last_ix) ?_); intro D' n' h' tk' F' N' hne'; (try dsimp only at N'); (replace hne' := Mine.allNe_of hne'; dsimp only [Mine.AllNe] at hne'; walk_at "splitne"))) | fail "no")
  k_with "call builtin:list.append" => (first | ((k_here; (with_reducible show wpAny _ _ (call (Value.builtin _) [Value.ref _, _]) _ _ _); k_dflt (refine' append_K (by k_asm) (by k_asm) (by k_upd) ?_ (by (rw [PySem.sizeLine_eq]; omega)); k_whole); intro h' F' N'; (try k_sweep))) | fail "no")
  trivial
set_option maxHeartbeats 4000000 in
theorem append_cut_ok (w : World) {p : Program} {loose : List PySem.Str} {mean : ExcName → Option Value} {mg mb : PySem.Str → Option Value} (dp un : Nat) (gd : Option (List Code)) (cn : PySem.Str) (cs : Scope) (a : Addr) (ccd : Value) (cl : List (PySem.Str × Addr)) (outer : List Env) (A₀ : Around) (base h₀ : Heap) (L : Addr) (m : PySem.Str → Option Value) (s : Shared) (Q E : Value → Shared → Prop) (mk dmk ln x dx : Addr) (g1 g2 g3 g4 g5 g6 e1 mxl : Int) (m1 m2 m3 m4 m5 m6 m7 m8 m9 tW k1 t0 : Tok) (lns its : Array Value) (cn' n : Nat) (p2 p9 : Array Value) (ws : List PySem.Str) (v : PySem.Str) (tf tv : Tok)
    (B : Below A₀ base outer h₀) (F : Fr h₀ L s.heap m) (X : (Mine.hd.heap_1 w.params).In h₀) (T : Top p loose mean mg mb h₀) (hk : cs.kind = .function) (hd : dp + 10 < recursionLimit) (hu : un + 200 < cLine)
    (N : News h₀ L s.heap [(mk, instObj 136 dmk), (dmk, dictOf [⟨g1, .str (Str.ofString "_maxlen") m1, .int mxl tW⟩, ⟨g2, .str (Str.ofString "_continuation_ws") m2, .str (Str.ofString " ") m3⟩, ⟨g3, .str (Str.ofString "_continuation_ws_len") m4, .int 1 m5⟩, ⟨g4, .str (Str.ofString "_splitchars") m6, .str (Str.ofString " ") m7⟩, ⟨g5, .str (Str.ofString "_lines") m8, .ref ln⟩, ⟨g6, .str (Str.ofString "_current_line") m9, .ref x⟩] 6), (ln, W.listOf lns cn'), (x, accO dx its n), (dx, dictOf [⟨e1, .str (Str.ofString "_initial_size") k1, .int 0 t0⟩] 1), (182, tabObj p2), (189, tabObj p9)])
    (hne : NeA mk dmk ∧ NeA mk ln ∧ NeA mk x ∧ NeA mk dx ∧ NeA mk 182 ∧ NeA mk 189 ∧ NeA dmk ln ∧ NeA dmk x ∧ NeA dmk dx ∧ NeA dmk 182 ∧ NeA dmk 189 ∧ NeA ln x ∧ NeA ln dx ∧ NeA ln 182 ∧ NeA ln 189 ∧ NeA x dx ∧ NeA x 182 ∧ NeA x 189 ∧ NeA dx 182 ∧ NeA dx 189)
    (j : Nat) (hsz : its.size = j + 1) (hj : j ≤ 800) (hcut : lenW (ws ++ [v]) > mxl) (hsl : lns.size ≤ 900) (hp2 : psOk pos132 p2) (hp9 : psOk pos135 p9) (hT : TupsAt s.heap its ws)
    (hl : ∀ u ∈ ws ++ [v], u.length ≤ 1000)
    (hret : ∀ tp c' n' t' t1 p2' p9' h' gs tk', Fr h₀ L h' m → News h₀ L h' [(tp, { cls := .type "tuple", data := .seq #[.str (Str.ofString " ") tf, .str v tv] }), (mk, instObj 136 dmk), (dmk, dictOf [⟨g1, .str (Str.ofString "_maxlen") m1, .int mxl tW⟩, ⟨g2, .str (Str.ofString "_continuation_ws") m2, .str (Str.ofString " ") m3⟩, ⟨g3, .str (Str.ofString "_continuation_ws_len") m4, .int 1 m5⟩, ⟨g4, .str (Str.ofString "_splitchars") m6, .str (Str.ofString " ") m7⟩, ⟨g5, .str (Str.ofString "_lines") m8, .ref ln⟩, ⟨g6, .str (Str.ofString "_current_line") m9, .ref x⟩] 6), (ln, W.listOf (lns.push (.str (txt ws) t1)) c'), (x, accO dx #[.ref tp] n'), (dx, dictOf [⟨e1, .str (Str.ofString "_initial_size") k1, .int 0 t'⟩] 1), (182, tabObj p2'), (189, tabObj p9')] → psOk pos132 p2' → psOk pos135 p9' → (AllBare s.gens → AllBare gs) → KB [(mk, instObj 136 dmk), (dmk, dictOf [⟨g1, .str (Str.ofString "_maxlen") m1, .int mxl tW⟩, ⟨g2, .str (Str.ofString "_continuation_ws") m2, .str (Str.ofString " ") m3⟩, ⟨g3, .str (Str.ofString "_continuation_ws_len") m4, .int 1 m5⟩, ⟨g4, .str (Str.ofString "_splitchars") m6, .str (Str.ofString " ") m7⟩, ⟨g5, .str (Str.ofString "_lines") m8, .ref ln⟩, ⟨g6, .str (Str.ofString "_current_line") m9, .ref x⟩] 6), (ln, W.listOf lns cn'), (x, accO dx its n), (dx, dictOf [⟨e1, .str (Str.ofString "_initial_size") k1, .int 0 t0⟩] 1), (182, tabObj p2), (189, tabObj p9)] s.heap h' → s.heap.get? tp = none → Q .none { s with heap := h', gens := gs, toks := tk' })
    : wpAny (model PySem.Challenge.rw_wn0105_01.row.prog w) (ktrTop dp un gd cn cs L a ccd cl outer) (call (.ref 133) [.ref mk, .str (Str.ofString " ") tf, .str v tv]) Q E s := by
  obtain ⟨a1, a2, a3, a4, a5, a6, a7, a8, a9, a10, a11, a12, a13, a14, a15, a16, a17, a18, a19, a20⟩ := hne
  have hlw : ∀ u ∈ ws, u.length ≤ 1000 := fun u hu => hl u (List.mem_append_left _ hu)
  revert X; k_fill; intro X
  refine wpAny_call ?_
  k_dflt walk_at "myenter"
  (rename Fr _ _ _ _ => kF')
  replace kF' : Fr _ _ _ (fun y => List.lookup y [(Str.ofString "string", Value.str v tv), (Str.ofString "fws", Value.str (Str.ofString " ") tf), (Str.ofString "self", Value.ref mk)]) := kF'
  (have hTg := TupsAt.kb hT N (by assumption) (by simp))
  k_steps
  exact hret _ _ _ _ _ _ _ _ _ _ (by k_asm) (by walk_at "news") (by assumption) (by assumption) (by intro hx; solve_by_elim) (by walk_at "kb") (Mine.fresh_in (by assumption) (by assumption) (by k_mem) (by k_all))
end Mine
end
section
open PySem PySem.W PyProof.Rows PySem.Calls PySem.Spec
set_option maxRecDepth 100000
namespace Mine
local macro_rules | `(tactic| k_mem) => `(tactic| assumption)
local macro_rules | `(tactic| k_inst) => `(tactic| (refine' Mine.InstAt.ofAcc ?N ?h1 ?h2; (case N => k_asm); (case h1 => k_mem); (case h2 => k_mem)))
local macro_rules | `(tactic| k_ne) => `(tactic| (refine neN ?_; (try dsimp only); first | exact Mine.NeA.ne (by with_reducible assumption) | exact Mine.NeA.ne' (by with_reducible assumption) | omega))
local macro_rules | `(tactic| walk_at $s:str) => `(tactic| k_extra $s)
theorem words_C7 : True := by
  k_with_none
  w_top off
  k_with "myenter" => (first | ((refine' Mine.enterR (by k_asm) (by k_asm) (by k_asm) (by k_asm) (by k_asm) (by exact rfl) (by exact rfl) (by assumption) (by k_is) (by k_is) (by ktr_room) (by first | exact BindsTo.of_eq rfl | exact binds_K (by k_in) rfl (by k_is) rfl rfl rfl) (by exact locs rfl) ?_ (by exact rfl) (by exact rfl) (by exact rfl) (by decide); k_whole; intro g' L' h' hG' FG' F' N' B' X' T' l1; (try k_lt l1); (try dsimp only); (try k_lift B'); (try k_fold))) | fail "no")
  k_with "mylen" => (first | (first | omega | (simp only [PySem.Str.length_append, PySem.sizeLine_eq] at *; omega)) | fail "no")
  k_with "getMethod ref" => (first | ((k_here; k_dflt (first | refine' Mine.method_fnL (by k_in) (by k_inst) (by k_is) (by k_is) (by k_is) (by k_is) (by exact Mine.shadow_dict (by k_get)) ?_; k_whole | refine' Mine.method_biL (by k_in) (by k_inst) (by k_is) (by k_is) (by k_is) (by exact PySem.F.type_list_append) (by exact Mine.shadow_dict (by k_get)) ?_; k_whole))) | fail "no")
  k_with "call builtin:list.append" => (first | ((k_here; (with_reducible show wpAny _ _ (call (Value.builtin _) [Value.ref _, _]) _ _ _); k_dflt (refine' Mine.append_accL (by k_asm) (by k_asm) (by k_asm) (by k_upd) (by k_mem) (by k_is) ?_ (by walk_at "mylen"); k_whole); intro h' F' N'; (try k_sweep))) | fail "no")
  k_with "getAttr ref" => (first | ((k_here; k_dflt (refine' Mine.get_ownL' (by k_asm) (by k_asm) (by k_inst) (by k_is) (by k_is) (by k_is) (by k_is) (by k_is) (by k_is) (by k_get) (by k_handed) ?_; k_whole))) | fail "no")
  k_with "mytups" => (first | (first | assumption | exact Mine.TupsAt.keeps (by assumption) (fun b o e _ => Fr.keep (by k_asm) b o e)) | fail "no")
  k_with "eval GeneratorExp" => (first | ((k_here; k_dflt (first | ((with_reducible show wpAny _ _ (eval (Expr.GeneratorExp (Expr.BinOp _ _ _ _) _ _ _) _) _ _ _); refine' Mine.gen_len_K (by k_asm) (by k_asm) (by k_asm) (by k_asm) (by exact rfl) (by exact rfl) (by exact rfl) (by exact rfl) (by exact rfl) (by ktr_room) (by k_mem) (by k_mem) (by (intro ps'; k_upd)) (by assumption) (by walk_at "mytups") (by assumption) ?_) | ((with_reducible show wpAny _ _ (eval (Expr.GeneratorExp (Expr.Call _ _ _ _) _ _ _) _) _ _ _); refine' Mine.gen_join_K (by exact rfl) (by k_asm) (by k_asm) (by k_asm) (by k_asm) (by exact rfl) (by exact rfl) (by exact rfl) (by exact rfl) (by exact rfl) (by ktr_room) (by k_mem) (by k_mem) (by (intro ps'; k_upd)) (by assumption) (by walk_at "mytups") (by assumption) ?_)); intro a' ps' h' gs' tk' lo' F' N' hps' hAB' hlo' hlo2' G'; (try dsimp only at N'))) | fail "no")
  k_with "call builtin:sum" => (first | ((k_here; k_dflt (refine' Mine.sum_len_K (by k_asm) (by k_asm) (by refine Mine.Gen.toks (by assumption) ?_; first | exact Nat.le_succ _ | exact Nat.le_refl _) (by exact (Mine.TupsAt.size (by assumption)).symm) (by assumption) (by assumption) ?_); intro h' gs' tk' t' F' N' hAB' hK')) | fail "no")
  k_with "call builtin:str.join" => (first | ((k_here; (with_reducible show wpAny _ _ (call (Value.builtin _) [Value.str _ _, Value.ref _]) _ _ _); k_dflt (refine' Mine.join_str_K (by k_asm) (by k_asm) (by refine Mine.Gen.toks (by assumption) ?_; first | exact Nat.le_succ _ | exact Nat.le_refl _) (by exact (Mine.TupsAt.size (by assumption)).symm) (by assumption) (by assumption) (by assumption) (by assumption) ?_); intro h' gs' tk' t' F' N' hAB' hK')) | fail "no")
  k_with "ksenter" => (first | ((refine' Mine.ks_codeR (by k_asm) (by k_asm) (by k_asm) (by k_asm) (by k_asm) (by exact rfl) (by exact rfl) (by assumption) (by k_is) (by k_is) (by ktr_room) (by first | exact BindsTo.of_eq rfl | exact binds_K (by k_in) rfl (by k_is) rfl rfl rfl) (by exact locs rfl) ?_ (by decide) (by exact rfl) (by exact rfl) (by exact rfl); intro g' L' h' hG' FG' F' N' B' X' T' l1; (try k_lt l1); (try dsimp only); (try k_lift B'); (try k_fold))) | fail "no")
  k_with "getMethod ref" => (first | ((k_here; k_dflt (refine' Mine.meth_len_K (by k_asm) (by k_asm) (by k_asm) (by k_mem) (by k_inst) (by k_is) (by k_is) (by ks_is) (by decide) (by first | exact Mine.ty_len | exact Mine.ty_pop | exact Mine.ty_init) (by first | exact Or.inl ⟨rfl, rfl⟩ | exact Or.inr ⟨rfl, rfl⟩) (by first | exact Mine.nc_len | exact Mine.nc_pop | exact Mine.nc_init) (by decide +kernel) ?_; intro q' h' F' N' l1; (try k_lt l1)))) | fail "no")
  k_with "callWith ref" => (first | ((k_here; k_dflt (refine' Mine.callWith_B (by k_asm) (by k_mem) (by first | exact Or.inl rfl | exact Or.inr rfl) ?_))) | fail "no")
  k_with "call ref" => (first | ((k_here; k_dflt (first | (refine' Mine.call_len_K (by k_asm) (by k_mem) (by k_mem) ?_; intro t' tk') | (refine' Mine.call_pop_K (by k_asm) (by k_asm) (by k_asm) (by k_mem) (by k_upd) (by k_mem) (by exact rfl) (by rfl) (by k_is) (by k_is) (by walk_at "mylen") ?_; intro h' F' N')))) | fail "no")
  k_with "newsx" => (first | (first | (intro _; exact News.nil) | (intro nx; refine' Mine.News.one nx (by k_mem) (by walk_at "newsx"))) | fail "no")
  k_with "news" => (first | (first | assumption | (refine' Mine.News.one (by assumption) (by k_mem) (by walk_at "newsx")) | (refine News.perm (by assumption) ?_; simp; done) | (refine News.perm (by assumption) ?_; intro p hp; simp only [List.mem_cons, List.not_mem_nil, or_false] at hp ⊢; rcases hp with rfl | hp <;> simp_all)) | fail "no")
  k_with "kb" => (first | (exact Mine.KB.fin (by assumption) (by assumption)) | fail "no")
  k_with "splitne" => (first | ((repeat ((with_reducible rename Mine.NeA _ _ ∧ _ => kc'); (first | (refine Mine.sp16 kc' ?_; intro _ _ _ _ _ _ _ _ _ _ _ _ _ _ _ _ _) | (refine Mine.sp8 kc' ?_; intro _ _ _ _ _ _ _ _ _) | (refine Mine.sp4 kc' ?_; intro _ _ _ _ _) | (refine Mine.sp2 kc' ?_; intro _ _ _) | (refine Mine.sp1 kc' ?_; intro _ _)); clear kc'))) | fail "no")
  k_with "upds" => (first | (first | exact Mine.Upds.nil | (refine' Mine.Upds.cons (by k_upd) (by walk_at "upds"))) | fail "no")
  k_with "mylens" => (first | (assumption) | fail "no")
  k_with "call ref" => (first | ((k_here; k_dflt ((first | with_reducible show wpAny _ _ (call (Value.ref 217) _) _ _ _ | with_reducible show wpAny _ _ (call (Value.ref (nat_lit 217)) _) _ _ _); refine' Mine.part_count_K _ _ _ _ _ _ _ _ _ _ _ _ _ _ _ _ _ _ _ _ _ _ _ _ _ _ _ (by k_asm) (by k_asm) (by k_asm) (by k_asm) (by first | assumption | exact rfl) (by (dsimp only [ktrTop, Around.deeper]; omega)) (by (dsimp only [ktrTop, Around.deeper]; omega)) (by k_asm) (by k_mem) (by k_mem) ?_); intro h' tk' t' F' N')) | fail "no")
  k_with "call ref" => (first | ((k_here; k_dflt ((first | with_reducible show wpAny _ _ (call (Value.ref 187) _) _ _ _ | with_reducible show wpAny _ _ (call (Value.ref (nat_lit 187)) _) _ _ _); refine' Mine.len_K _ _ _ _ _ _ _ _ _ _ _ _ _ _ _ _ _ _ _ _ _ _ _ _ _ _ _ _ _ _ (by k_asm) (by k_asm) (by k_asm) (by k_asm) (by first | assumption | exact rfl) (by (dsimp only [ktrTop, Around.deeper]; omega)) (by (dsimp only [ktrTop, Around.deeper]; omega)) (by k_asm) (by k_mem) (by k_mem) (by (intro ps'; walk_at "upds")) (by assumption) (by walk_at "mytups") (by walk_at "mylens") (by walk_at "mylen") ?_); intro ps' h' gs' tk' t' F' N' hps' hAB' hlb'; (try dsimp only at N'); (try (refine Mine.len_back (by assumption) ?_)))) | fail "no")
  k_with "call ref" => (first | ((k_here; k_dflt ((first | with_reducible show wpAny _ _ (call (Value.ref 194) _) _ _ _ | with_reducible show wpAny _ _ (call (Value.ref (nat_lit 194)) _) _ _ _); refine' Mine.str_K _ _ _ _ _ _ _ _ _ _ _ _ _ _ _ _ _ _ _ _ _ _ _ _ _ _ _ _ _ _ (by k_asm) (by k_asm) (by k_asm) (by k_asm) (by first | assumption | exact rfl) (by (dsimp only [ktrTop, Around.deeper]; omega)) (by (dsimp only [ktrTop, Around.deeper]; omega)) (by k_asm) (by k_mem) (by k_mem) (by (intro ps'; walk_at "upds")) (by assumption) (by walk_at "mytups") (by walk_at "mylens") (by walk_at "mylen") ?_); intro ps' h' gs' tk' t' F' N' hps' hAB' hTk'; (try dsimp only at N'); (try dsimp only [W.StrBack]))) | fail "no")
  k_with "call ref" => (first | ((k_here; k_dflt ((first | with_reducible show wpAny _ _ (call (Value.ref 164) _) _ _ _ | with_reducible show wpAny _ _ (call (Value.ref (nat_lit 164)) _) _ _ _); refine' Mine.push_K _ _ _ _ _ _ _ _ _ _ _ _ _ _ _ _ _ _ _ _ _ _ _ _ _ _ _ _ _ _ _ _ (by k_asm) (by k_asm) (by k_asm) (by k_asm) (by first | assumption | exact rfl) (by (dsimp only [ktrTop, Around.deeper]; omega)) (by (dsimp only [ktrTop, Around.deeper]; omega)) (by k_asm) (by k_mem) (by (intro tp'; walk_at "upds")) (by walk_at "mylen") ?_); intro tp' h' tk' F' N' hne'; (try dsimp only at N'); (replace hne' := Mine.allNe_of hne'; dsimp only [Mine.AllNe] at hne'; walk_at "splitne"))) | fail "no")
  k_with "subscriptTail Name Slice ref ref" => (first | ((k_here; (with_reducible show wpAny _ _ (subscriptTail _ (PySem.Expr.Slice _ _ none _) (Value.ref _) (Value.ref _)) _ _ _); k_dflt (refine' Mine.slice_K (by k_asm) (by k_asm) (by k_asm) (by k_mem) (by k_mem) (by k_is) (by k_is) (by k_is) (by kmk_part) (by kmk_part) (by walk_at "mylen") (by first | exact Mine.pick_from (by assumption) | exact rfl) ?_ (by with_unfolding_all rfl) (by kmk_pure)); intro D' h' F' N' l1; (try k_lt l1))) | fail "no")
  k_with "setItem ref ref" => (first | ((k_here; k_dflt (refine' Mine.setitem_K (by k_asm) (by k_asm) (by k_asm) (by kmk_list) (by (intro n'; k_upd)) (by k_mem) (by k_is) (by k_is) (by k_is) (by kmk_part) (by kmk_part) (by walk_at "mylen") (by first | walk_at "mylen" | (simp; done)) (by first | exact Mine.set_from (by assumption) | exact Mine.set_all | exact rfl) ?_); intro n' h' F' N'; (try dsimp only at N'))) | fail "no")
  k_with "setAttr ref" => (first | ((k_here; k_dflt (refine' Mine.set_dictL (by k_asm) (by k_asm) (by k_asm) (by k_inst) (by exact rfl) (by k_is) (by exact Mine.mro220 _) (by k_is) (by k_is) (by k_get) (by k_put) (by k_upd) (by exact Nat.le_of_ble_eq_true rfl) ?_; k_whole; intro h' F' N'; (try k_sweep)))) | fail "no")
  k_with "wpAt" => (first | (((with_reducible show _root_.PySem.wpAt _ _ _ (execs (_ :: _) _) _ _ _); refine ks_wpAt_execs_cons ?_)) | fail "no")
  k_with "wpAt" => (first | ((ks_step "eval Call"; k_dflt (refine ks_wpAt_MethodCall ?_))) | fail "no")
  k_with "truthy ref" => (first | ((k_here; k_dflt (refine' Mine.truthy_lenL (by k_in) (by k_inst) (by k_is) (by k_is) (by k_is) ?_; k_whole))) | fail "no")
  k_with "Exists" => (first | ((refine ⟨_, _, rfl, ?_⟩)) | fail "no")
  k_with "units" => (first | (first | k_units | (dsimp only [ktrTop, Around.deeper, Around.in1]; omega) | (simp only [ktrTop, Around.deeper, Around.in1, Around.under]; omega)) | fail "no")
  k_with "call type:str" => (first | ((k_here; (with_reducible show wpAny _ _ (call (Value.type "str") [Value.ref _]) _ _ _); k_dflt (refine' kso_call (by walk_at "units") (by k_in) (by k_inst) (by k_is) (by k_is) ?_; k_whole))) | fail "no")
  k_with "call ref" => (first | ((k_here; k_dflt ((first | with_reducible show wpAny _ _ (call (Value.ref 180) _) _ _ _ | with_reducible show wpAny _ _ (call (Value.ref (nat_lit 180)) _) _ _ _); refine' Mine.pop_K _ _ _ _ _ _ _ _ _ _ _ _ _ _ _ _ _ _ _ _ _ _ _ _ _ _ _ _ _ (by k_asm) (by k_asm) (by k_asm) (by k_asm) (by first | assumption | exact rfl) (by (dsimp only [ktrTop, Around.deeper]; omega)) (by (dsimp only [ktrTop, Around.deeper]; omega)) (by k_asm) (by walk_at "upds") (by k_mem) (by walk_at "mylen") ?_); intro h' tk' F' N'; (try dsimp only at N'))) | fail "no")
  k_with "call ref" => (first | ((k_here; k_dflt ((first | with_reducible show wpAny _ _ (call (Value.ref 172) _) _ _ _ | with_reducible show wpAny _ _ (call (Value.ref (nat_lit 172)) _) _ _ _); refine' Mine.pop_from_K _ _ _ _ _ _ _ _ _ _ _ _ _ _ _ _ _ _ _ _ _ _ _ _ _ _ _ _ _ _ (by k_asm) (by k_asm) (by k_asm) (by k_asm) (by first | assumption | exact rfl) (by (dsimp only [ktrTop, Around.deeper]; omega)) (by (dsimp only [ktrTop, Around.deeper]; omega)) (by k_asm) (by (intro n'; walk_at "upds")) (by k_mem) (by walk_at "mylen") (by walk_at "mylen") ?_); intro D' n' h' tk' F' N' hne'; (try dsimp only at N'); (replace hne' := Mine.allNe_of hne'; dsimp only [Mine.AllNe] at hne'; walk_at "splitne"))) | fail "no")
  k_with "call ref" => (first | ((k_here; k_dflt ((first | with_reducible show wpAny _ _ (call (Value.ref 202) _) _ _ _ | with_reducible show wpAny _ _ (call (Value.ref (nat_lit 202)) _) _ _ _); refine' Mine.reset_K _ _ _ _ _ _ _ _ _ _ _ _ _ _ _ _ _ _ _ _ _ _ _ _ _ _ _ (by k_asm) (by k_asm) (by k_asm) (by k_asm) (by first | assumption | exact rfl) (by (dsimp only [ktrTop, Around.deeper]; omega)) (by (dsimp only [ktrTop, Around.deeper]; omega)) (by k_asm) (by k_mem) (by (intro n' t'; walk_at "upds")) (by walk_at "mylen") ?_); intro n' t' h' tk' F' N'; (try dsimp only at N'))) | fail "no")
  k_with "call ref" => (first | ((k_here; k_dflt ((first | with_reducible show wpAny _ _ (call (Value.ref 202) _) _ _ _ | with_reducible show wpAny _ _ (call (Value.ref (nat_lit 202)) _) _ _ _); refine' Mine.reset2_K _ _ _ _ _ _ _ _ _ _ _ _ _ _ _ _ _ _ _ _ _ _ _ _ _ _ _ _ _ _ (by k_asm) (by k_asm) (by k_asm) (by k_asm) (by first | assumption | exact rfl) (by (dsimp only [ktrTop, Around.deeper]; omega)) (by (dsimp only [ktrTop, Around.deeper]; omega)) (by k_asm) (by k_mem) (by k_mem) (by (intro n' t'; walk_at "upds")) (by walk_at "mylen") (by first | exact Nat.le_of_ble_eq_true rfl | walk_at "mylen") ?_); intro n' t' h' tk' F' N'; (try dsimp only at N'))) | fail "no")
  k_with "istup" => (first | (first | exact Mine.isTup_news (by k_asm) (by k_mem) | exact Mine.isTup_fr (by assumption) (by k_asm)) | fail "no")
  k_with "compareOp NotEq ref ref" => (first | ((k_here; k_dflt (refine Mine.tup_ne (by walk_at "istup") (by walk_at "istup") (by assumption) (by first | assumption | decide +kernel) (by first | assumption | decide +kernel) (by first | assumption | decide +kernel) (by first | assumption | decide +kernel) (by walk_at "units") ?_))) | fail "no")
  k_with "call ref" => (first | ((k_here; k_dflt ((first | with_reducible show wpAny _ _ (call (Value.ref 209) _) _ _ _ | with_reducible show wpAny _ _ (call (Value.ref (nat_lit 209)) _) _ _ _); refine' Mine.onlyws_K _ _ _ _ _ _ _ _ _ _ _ _ _ _ _ _ _ _ _ _ _ _ _ _ _ _ _ _ _ _ (by k_asm) (by k_asm) (by k_asm) (by k_asm) (by first | assumption | exact rfl) (by (dsimp only [ktrTop, Around.deeper]; omega)) (by (dsimp only [ktrTop, Around.deeper]; omega)) (by k_asm) (by k_mem) (by k_mem) (by k_mem) (by k_mem) (by (intro p2' p9'; walk_at "upds")) (by walk_at "mylen") (by assumption) (by assumption) (by walk_at "mytups") (by walk_at "mylens") (by assumption) (by assumption) ?_); intro p2' p9' h' gs' tk' F' N' hp2' hp9' hAB'; (try dsimp only at N'))) | fail "no")
  k_with "eval Call" => (first | ((k_here; (with_reducible show wpAny _ _ (eval (Expr.Call (Expr.Attribute _ _ _) [Expr.Starred _ _] [] _) _) _ _ _); k_dflt (refine' Mine.CallAttr_star ?_ (by with_unfolding_all rfl)))) | fail "no")
  k_with "eval Call Attribute" => (first | ((k_here; (with_reducible show wpAny _ _ (eval (Expr.Call (Expr.Attribute _ _ _) [Expr.Starred _ _] [] _) _) _ _ _); k_dflt (refine' Mine.CallAttr_star ?_ (by with_unfolding_all rfl)))) | fail "no")
  k_with "getAttr ref" => (first | ((k_here; k_dflt (refine' Mine.get_boundL (by k_inst) (by k_asm) (by k_asm) (by k_asm) (by k_is) (by k_is) (by k_is) (by k_is) (by k_is) (by k_is) (by k_is) (by k_is) (by decide +kernel) (by k_get) ?_; k_whole); intro q' h' F' N' l1; (try k_lt l1))) | fail "no")
  k_with "callWith ref" => (first | ((k_here; (with_reducible show wpAny _ _ (callWith _ (Value.ref _) _ (backTo _ (starEach [Expr.Starred _ _] _)) []) _ _ _); k_dflt (refine' Mine.callWith_star (by k_asm) (by k_asm) (by k_mem) (by exact Mine.func164 _) ?_))) | fail "no")
  k_with "StarOf ref" => (first | ((k_here; k_dflt (refine' Mine.star_tup (by k_asm) (by k_asm) (by walk_at "istup") (by exact Nat.le_of_ble_eq_true rfl) ?_; k_whole); intro h' F' N'; (try dsimp only [List.nil_append, List.cons_append]))) | fail "no")
  k_with "And" => (first | ((refine ⟨⟨by k_in, News.get (by k_asm) (by k_mem)⟩, ?_⟩)) | fail "no")
  k_with "call ref" => (first | ((k_here; k_dflt (refine' call_meth (by k_asm) (by k_mem) ?_; refine' Mine.push_KC _ _ _ _ _ _ _ _ _ _ _ _ _ _ _ _ _ _ _ _ _ _ _ _ _ _ _ _ _ _ _ _ (by k_asm) (by k_asm) (by k_asm) (by k_asm) (by first | assumption | exact rfl) (by (dsimp only [ktrTop, Around.deeper]; omega)) (by (dsimp only [ktrTop, Around.deeper]; omega)) (by k_asm) (by k_mem) (by (intro tp'; walk_at "upds")) (by walk_at "mylen") ?_); intro tp' h' tk' F' N' hne'; (try dsimp only at N'); (replace hne' := Mine.allNe_of hne'; dsimp only [Mine.AllNe] at hne'; walk_at "splitne"))) | fail "no")
  k_with "mytups" => (first | (first | exact Mine.TupsAt.keeps (by assumption) (fun b o e _ => Fr.keep (by k_asm) b o e) | exact Mine.TupsAt.push (by walk_at "mytups") (by walk_at "istup")) | fail "no")
  k_with "mylen" => (first | (first | omega | (simp only [Array.size_push, Array.size_extract]; omega)) | fail "no")
  k_with "ite" => (first | ((refine Mine.ite_so (by first | with_reducible assumption | exact decide_eq_true (by with_reducible assumption)) ?_)) | fail "no")
  k_with "exec For" => (first | ((k_here; k_dflt (refine' Mine.For_turns ?_ (by (intro _; with_unfolding_all rfl)) (by passes_own)))) | fail "no")
  k_with "pyIter str" => (first | ((k_here; k_dflt (refine' Mine.pyIter_str_K (by k_asm) (by k_asm) (by decide +kernel) ?_); intro I' o' h' hs' F' N' l1; (try k_lt l1); refine ⟨1, ?_⟩; refine Mine.turns_succ ?_)) | fail "no")
  k_with "call type:range" => (first | ((k_here; k_dflt (refine' Mine.range_K (by k_asm) (by k_asm) (by decide) (by exact PyProof.noPylong_small (by walk_at "mylen")) ?_); intro R' h' tk' t1' u1' v1' F' N' l1; (try k_lt l1))) | fail "no")
  k_with "pyNext ref" => (first | ((k_here; k_dflt (first | (refine' Mine.next_str_K (by k_asm) (by k_asm) (by assumption) (by (intro o'; k_upd)) (by exact rfl) ?_; intro o' h' t' hs' F' N'; (try dsimp only at N'); refine ⟨_, rfl, ?_⟩) | (refine' Mine.next_range_K (by k_asm) (by k_asm) (by k_upd) (by walk_at "mylen") ?_; intro h' t' F' N'; (try dsimp only at N'); refine ⟨_, rfl, ?_⟩)))) | fail "no")
  k_with "exec For Name Call" => (first | ((k_here; k_dflt (refine' Mine.For_turns ?_ (by (intro _; with_unfolding_all rfl)) (by passes_own)))) | fail "no")
  k_with "exec For Name Call cons nil" => (first | ((k_here; k_dflt (refine' Mine.For_turns ?_ (by (intro _; with_unfolding_all rfl)) (by passes_own)))) | fail "no")
  k_with "exec For Name Call cons cons" => (first | ((k_here; k_dflt (refine' Mine.For_turns ?_ (by (intro _; with_unfolding_all rfl)) (by passes_own)))) | fail "no")
  k_with "exec For Name Call nil cons" => (first | ((k_here; k_dflt (refine' Mine.For_turns ?_ (by (intro _; with_unfolding_all rfl)) (by passes_own)))) | fail "no")
  k_with "pyIter ref" => (first | ((k_here; k_dflt (refine' Mine.pyIter_range_K (by k_asm) (by k_asm) (by k_mem) (by exact Mine.small_down (by walk_at "mylen") (by walk_at "mylen")) ?_); intro I' h' F' N' l1; (try k_lt l1); (try (rw [Mine.size_down (by walk_at "mylen")] at N')); refine ⟨1, ?_⟩; refine Mine.turns_succ ?_)) | fail "no")
  k_with "subscriptTail" => (first | ((k_here; (with_reducible show wpAny _ _ (subscriptTail (PySem.Expr.Name _ _) _ (Value.ref _) (Value.int _ _)) _ _ _); k_dflt (refine' Mine.index_K (by k_asm) (by k_asm) (by k_asm) (by k_mem) (by k_mem) (by k_is) (by k_is) (by k_is) (by walk_at "mylen") (by walk_at "mylen") (by exact Mine.last_at) ?_ (by with_unfolding_all rfl) (by kmk_pure)))) | fail "no")
  k_with "call ref" => (first | ((k_here; k_dflt ((first | with_reducible show wpAny _ _ (call (Value.ref 172) _) _ _ _ | with_reducible show wpAny _ _ (call (Value.ref (nat_lit 172)) _) _ _ _); refine' Mine.pop_last_K _ _ _ _ _ _ _ _ _ _ _ _ _ _ _ _ _ _ _ _ _ _ _ _ _ _ _ _ _ _ _ (by k_asm) (by k_asm) (by k_asm) (by k_asm) (by first | assumption | exact rfl) (by (dsimp only [ktrTop, Around.deeper]; omega)) (by (dsimp only [ktrTop, Around.deeper]; omega)) (by k_asm) (by (intro n'; walk_at "upds")) (by k_mem) (by walk_at "mylen") (by exact Mine.last_ix) ?_); intro D' n' h' tk' F' N' hne'; (try dsimp only at N'); (replace hne' := Mine.allNe_of hne'; dsimp only [Mine.AllNe] at hne'; walk_at "splitne"))) | fail "no")
  k_with "call builtin:list.append" => (first | ((k_here; (with_reducible show wpAny _ _ (call (Value.builtin _) [Value.ref _, _]) _ _ _); k_dflt (refine' append_K (by k_asm) (by k_asm) (by k_upd) ?_ (by (rw [PySem.sizeLine_eq]; omega)); k_whole); intro h' F' N'; (try k_sweep))) | fail "no")
  trivial
set_option maxHeartbeats 4000000 in
theorem append_no_ok (w : World) {p : Program} {loose : List PySem.Str} {mean : ExcName → Option Value} {mg mb : PySem.Str → Option Value} (dp un : Nat) (gd : Option (List Code)) (cn : PySem.Str) (cs : Scope) (a : Addr) (ccd : Value) (cl : List (PySem.Str × Addr)) (outer : List Env) (A₀ : Around) (base h₀ : Heap) (L : Addr) (m : PySem.Str → Option Value) (s : Shared) (Q E : Value → Shared → Prop) (mk dmk ln x dx : Addr) (g1 g2 g3 g4 g5 g6 e1 mxl : Int) (m1 m2 m3 m4 m5 m6 m7 m8 m9 tW k1 t0 : Tok) (lns its : Array Value) (cn' n : Nat) (p2 p9 : Array Value) (ws : List PySem.Str) (v : PySem.Str) (tf tv : Tok)
    (B : Below A₀ base outer h₀) (F : Fr h₀ L s.heap m) (X : (Mine.hd.heap_1 w.params).In h₀) (T : Top p loose mean mg mb h₀) (hk : cs.kind = .function) (hd : dp + 10 < recursionLimit) (hu : un + 200 < cLine)
    (N : News h₀ L s.heap [(mk, instObj 136 dmk), (dmk, dictOf [⟨g1, .str (Str.ofString "_maxlen") m1, .int mxl tW⟩, ⟨g2, .str (Str.ofString "_continuation_ws") m2, .str (Str.ofString " ") m3⟩, ⟨g3, .str (Str.ofString "_continuation_ws_len") m4, .int 1 m5⟩, ⟨g4, .str (Str.ofString "_splitchars") m6, .str (Str.ofString " ") m7⟩, ⟨g5, .str (Str.ofString "_lines") m8, .ref ln⟩, ⟨g6, .str (Str.ofString "_current_line") m9, .ref x⟩] 6), (ln, W.listOf lns cn'), (x, accO dx its n), (dx, dictOf [⟨e1, .str (Str.ofString "_initial_size") k1, .int 0 t0⟩] 1), (182, tabObj p2), (189, tabObj p9)])
    (hne : NeA mk dmk ∧ NeA mk ln ∧ NeA mk x ∧ NeA mk dx ∧ NeA mk 182 ∧ NeA mk 189 ∧ NeA dmk ln ∧ NeA dmk x ∧ NeA dmk dx ∧ NeA dmk 182 ∧ NeA dmk 189 ∧ NeA ln x ∧ NeA ln dx ∧ NeA ln 182 ∧ NeA ln 189 ∧ NeA x dx ∧ NeA x 182 ∧ NeA x 189 ∧ NeA dx 182 ∧ NeA dx 189)
    (hsz : its.size ≤ 800) (hcut : ¬ lenW (ws ++ [v]) > mxl) (hsl : lns.size ≤ 900) (hp2 : psOk pos132 p2) (hp9 : psOk pos135 p9) (hT : TupsAt s.heap its ws)
    (hl : ∀ u ∈ ws ++ [v], u.length ≤ 1000)
    (hret : ∀ tp c' n' t' (t1 : Tok) p2' p9' h' gs tk', Fr h₀ L h' m → News h₀ L h' [(tp, { cls := .type "tuple", data := .seq #[.str (Str.ofString " ") tf, .str v tv] }), (mk, instObj 136 dmk), (dmk, dictOf [⟨g1, .str (Str.ofString "_maxlen") m1, .int mxl tW⟩, ⟨g2, .str (Str.ofString "_continuation_ws") m2, .str (Str.ofString " ") m3⟩, ⟨g3, .str (Str.ofString "_continuation_ws_len") m4, .int 1 m5⟩, ⟨g4, .str (Str.ofString "_splitchars") m6, .str (Str.ofString " ") m7⟩, ⟨g5, .str (Str.ofString "_lines") m8, .ref ln⟩, ⟨g6, .str (Str.ofString "_current_line") m9, .ref x⟩] 6), (ln, W.listOf lns c'), (x, accO dx (its.push (.ref tp)) n'), (dx, dictOf [⟨e1, .str (Str.ofString "_initial_size") k1, .int 0 t'⟩] 1), (182, tabObj p2'), (189, tabObj p9')] → psOk pos132 p2' → psOk pos135 p9' → (AllBare s.gens → AllBare gs) → KB [(mk, instObj 136 dmk), (dmk, dictOf [⟨g1, .str (Str.ofString "_maxlen") m1, .int mxl tW⟩, ⟨g2, .str (Str.ofString "_continuation_ws") m2, .str (Str.ofString " ") m3⟩, ⟨g3, .str (Str.ofString "_continuation_ws_len") m4, .int 1 m5⟩, ⟨g4, .str (Str.ofString "_splitchars") m6, .str (Str.ofString " ") m7⟩, ⟨g5, .str (Str.ofString "_lines") m8, .ref ln⟩, ⟨g6, .str (Str.ofString "_current_line") m9, .ref x⟩] 6), (ln, W.listOf lns cn'), (x, accO dx its n), (dx, dictOf [⟨e1, .str (Str.ofString "_initial_size") k1, .int 0 t0⟩] 1), (182, tabObj p2), (189, tabObj p9)] s.heap h' → s.heap.get? tp = none → Q .none { s with heap := h', gens := gs, toks := tk' })
    : wpAny (model PySem.Challenge.rw_wn0105_01.row.prog w) (ktrTop dp un gd cn cs L a ccd cl outer) (call (.ref 133) [.ref mk, .str (Str.ofString " ") tf, .str v tv]) Q E s := by
  obtain ⟨a1, a2, a3, a4, a5, a6, a7, a8, a9, a10, a11, a12, a13, a14, a15, a16, a17, a18, a19, a20⟩ := hne
  have hlw : ∀ u ∈ ws, u.length ≤ 1000 := fun u hu => hl u (List.mem_append_left _ hu)
  revert X; k_fill; intro X
  refine wpAny_call ?_
  k_dflt walk_at "myenter"
  (rename Fr _ _ _ _ => kF')
  replace kF' : Fr _ _ _ (fun y => List.lookup y [(Str.ofString "string", Value.str v tv), (Str.ofString "fws", Value.str (Str.ofString " ") tf), (Str.ofString "self", Value.ref mk)]) := kF'
  (have hTg := TupsAt.kb hT N (by assumption) (by simp))
  k_steps
  exact hret _ _ _ _ tf _ _ _ _ _ (by k_asm) (by walk_at "news") (by assumption) (by assumption) (by intro hx; solve_by_elim) (by walk_at "kb") (Mine.fresh_in (by assumption) (by assumption) (by k_mem) (by k_all))
end Mine
end
section
open PySem PySem.W PyProof.Rows PySem.Calls PySem.Spec
set_option maxRecDepth 100000
namespace Mine
local macro_rules | `(tactic| k_mem) => `(tactic| assumption)
local macro_rules | `(tactic| k_inst) => `(tactic| (refine' Mine.InstAt.ofAcc ?N ?h1 ?h2; (case N => k_asm); (case h1 => k_mem); (case h2 => k_mem)))
local macro_rules | `(tactic| k_ne) => `(tactic| (refine neN ?_; (try dsimp only); first | exact Mine.NeA.ne (by with_reducible assumption) | exact Mine.NeA.ne' (by with_reducible assumption) | omega))
local macro_rules | `(tactic| walk_at $s:str) => `(tactic| k_extra $s)
theorem words_C8 : True := by
  k_with_none
  w_top off
  k_with "myenter" => (first | ((refine' Mine.enterR (by k_asm) (by k_asm) (by k_asm) (by k_asm) (by k_asm) (by exact rfl) (by exact rfl) (by assumption) (by k_is) (by k_is) (by ktr_room) (by first | exact BindsTo.of_eq rfl | exact binds_K (by k_in) rfl (by k_is) rfl rfl rfl) (by exact locs rfl) ?_ (by exact rfl) (by exact rfl) (by exact rfl) (by decide); k_whole; intro g' L' h' hG' FG' F' N' B' X' T' l1; (try k_lt l1); (try dsimp only); (try k_lift B'); (try k_fold))) | fail "no")
  k_with "mylen" => (first | (first | omega | (simp only [PySem.Str.length_append, PySem.sizeLine_eq] at *; omega)) | fail "no")
  k_with "getMethod ref" => (first | ((k_here; k_dflt (first | refine' Mine.method_fnL (by k_in) (by k_inst) (by k_is) (by k_is) (by k_is) (by k_is) (by exact Mine.shadow_dict (by k_get)) ?_; k_whole | refine' Mine.method_biL (by k_in) (by k_inst) (by k_is) (by k_is) (by k_is) (by exact PySem.F.type_list_append) (by exact Mine.shadow_dict (by k_get)) ?_; k_whole))) | fail "no")
  k_with "call builtin:list.append" => (first | ((k_here; (with_reducible show wpAny _ _ (call (Value.builtin _) [Value.ref _, _]) _ _ _); k_dflt (refine' Mine.append_accL (by k_asm) (by k_asm) (by k_asm) (by k_upd) (by k_mem) (by k_is) ?_ (by walk_at "mylen"); k_whole); intro h' F' N'; (try k_sweep))) | fail "no")
  k_with "getAttr ref" => (first | ((k_here; k_dflt (refine' Mine.get_ownL' (by k_asm) (by k_asm) (by k_inst) (by k_is) (by k_is) (by k_is) (by k_is) (by k_is) (by k_is) (by k_get) (by k_handed) ?_; k_whole))) | fail "no")
  k_with "mytups" => (first | (first | assumption | exact Mine.TupsAt.keeps (by assumption) (fun b o e _ => Fr.keep (by k_asm) b o e)) | fail "no")
  k_with "eval GeneratorExp" => (first | ((k_here; k_dflt (first | ((with_reducible show wpAny _ _ (eval (Expr.GeneratorExp (Expr.BinOp _ _ _ _) _ _ _) _) _ _ _); refine' Mine.gen_len_K (by k_asm) (by k_asm) (by k_asm) (by k_asm) (by exact rfl) (by exact rfl) (by exact rfl) (by exact rfl) (by exact rfl) (by ktr_room) (by k_mem) (by k_mem) (by (intro ps'; k_upd)) (by assumption) (by walk_at "mytups") (by assumption) ?_) | ((with_reducible show wpAny _ _ (eval (Expr.GeneratorExp (Expr.Call _ _ _ _) _ _ _) _) _ _ _); refine' Mine.gen_join_K (by exact rfl) (by k_asm) (by k_asm) (by k_asm) (by k_asm) (by exact rfl) (by exact rfl) (by exact rfl) (by exact rfl) (by exact rfl) (by ktr_room) (by k_mem) (by k_mem) (by (intro ps'; k_upd)) (by assumption) (by walk_at "mytups") (by assumption) ?_)); intro a' ps' h' gs' tk' lo' F' N' hps' hAB' hlo' hlo2' G'; (try dsimp only at N'))) | fail "no")
  k_with "call builtin:sum" => (first | ((k_here; k_dflt (refine' Mine.sum_len_K (by k_asm) (by k_asm) (by refine Mine.Gen.toks (by assumption) ?_; first | exact Nat.le_succ _ | exact Nat.le_refl _) (by exact (Mine.TupsAt.size (by assumption)).symm) (by assumption) (by assumption) ?_); intro h' gs' tk' t' F' N' hAB' hK')) | fail "no")
  k_with "call builtin:str.join" => (first | ((k_here; (with_reducible show wpAny _ _ (call (Value.builtin _) [Value.str _ _, Value.ref _]) _ _ _); k_dflt (refine' Mine.join_str_K (by k_asm) (by k_asm) (by refine Mine.Gen.toks (by assumption) ?_; first | exact Nat.le_succ _ | exact Nat.le_refl _) (by exact (Mine.TupsAt.size (by assumption)).symm) (by assumption) (by assumption) (by assumption) (by assumption) ?_); intro h' gs' tk' t' F' N' hAB' hK')) | fail "no")
  k_with "ksenter" => (first | ((refine' Mine.ks_codeR (by k_asm) (by k_asm) (by k_asm) (by k_asm) (by k_asm) (by exact rfl) (by exact rfl) (by assumption) (by k_is) (by k_is) (by ktr_room) (by first | exact BindsTo.of_eq rfl | exact binds_K (by k_in) rfl (by k_is) rfl rfl rfl) (by exact locs rfl) ?_ (by decide) (by exact rfl) (by exact rfl) (by exact rfl); intro g' L' h' hG' FG' F' N' B' X' T' l1; (try k_lt l1); (try dsimp only); (try k_lift B'); (try k_fold))) | fail "no")
  k_with "getMethod ref" => (first | ((k_here; k_dflt (refine' Mine.meth_len_K (by k_asm) (by k_asm) (by k_asm) (by k_mem) (by k_inst) (by k_is) (by k_is) (by ks_is) (by decide) (by first | exact Mine.ty_len | exact Mine.ty_pop | exact Mine.ty_init) (by first | exact Or.inl ⟨rfl, rfl⟩ | exact Or.inr ⟨rfl, rfl⟩) (by first | exact Mine.nc_len | exact Mine.nc_pop | exact Mine.nc_init) (by decide +kernel) ?_; intro q' h' F' N' l1; (try k_lt l1)))) | fail "no")
  k_with "callWith ref" => (first | ((k_here; k_dflt (refine' Mine.callWith_B (by k_asm) (by k_mem) (by first | exact Or.inl rfl | exact Or.inr rfl) ?_))) | fail "no")
  k_with "call ref" => (first | ((k_here; k_dflt (first | (refine' Mine.call_len_K (by k_asm) (by k_mem) (by k_mem) ?_; intro t' tk') | (refine' Mine.call_pop_K (by k_asm) (by k_asm) (by k_asm) (by k_mem) (by k_upd) (by k_mem) (by exact rfl) (by rfl) (by k_is) (by k_is) (by walk_at "mylen") ?_; intro h' F' N')))) | fail "no")
  k_with "newsx" => (first | (first | (intro _; exact News.nil) | (intro nx; refine' Mine.News.one nx (by k_mem) (by walk_at "newsx"))) | fail "no")
  k_with "news" => (first | (first | assumption | (refine' Mine.News.one (by assumption) (by k_mem) (by walk_at "newsx")) | (refine News.perm (by assumption) ?_; simp; done) | (refine News.perm (by assumption) ?_; intro p hp; simp only [List.mem_cons, List.not_mem_nil, or_false] at hp ⊢; rcases hp with rfl | hp <;> simp_all)) | fail "no")
  k_with "kb" => (first | (exact Mine.KB.fin (by assumption) (by assumption)) | fail "no")
  k_with "splitne" => (first | ((repeat ((with_reducible rename Mine.NeA _ _ ∧ _ => kc'); (first | (refine Mine.sp16 kc' ?_; intro _ _ _ _ _ _ _ _ _ _ _ _ _ _ _ _ _) | (refine Mine.sp8 kc' ?_; intro _ _ _ _ _ _ _ _ _) | (refine Mine.sp4 kc' ?_; intro _ _ _ _ _) | (refine Mine.sp2 kc' ?_; intro _ _ _) | (refine Mine.sp1 kc' ?_; intro _ _)); clear kc'))) | fail "no")
  k_with "upds" => (first | (first | exact Mine.Upds.nil | (refine' Mine.Upds.cons (by k_upd) (by walk_at "upds"))) | fail "no")
  k_with "mylens" => (first | (assumption) | fail "no")
  k_with "call ref" => (first | ((k_here; k_dflt ((first | with_reducible show wpAny _ _ (call (Value.ref 217) _) _ _ _ | with_reducible show wpAny _ _ (call (Value.ref (nat_lit 217)) _) _ _ _); refine' Mine.part_count_K _ _ _ _ _ _ _ _ _ _ _ _ _ _ _ _ _ _ _ _ _ _ _ _ _ _ _ (by k_asm) (by k_asm) (by k_asm) (by k_asm) (by first | assumption | exact rfl) (by (dsimp only [ktrTop, Around.deeper]; omega)) (by (dsimp only [ktrTop, Around.deeper]; omega)) (by k_asm) (by k_mem) (by k_mem) ?_); intro h' tk' t' F' N')) | fail "no")
  k_with "call ref" => (first | ((k_here; k_dflt ((first | with_reducible show wpAny _ _ (call (Value.ref 187) _) _ _ _ | with_reducible show wpAny _ _ (call (Value.ref (nat_lit 187)) _) _ _ _); refine' Mine.len_K _ _ _ _ _ _ _ _ _ _ _ _ _ _ _ _ _ _ _ _ _ _ _ _ _ _ _ _ _ _ (by k_asm) (by k_asm) (by k_asm) (by k_asm) (by first | assumption | exact rfl) (by (dsimp only [ktrTop, Around.deeper]; omega)) (by (dsimp only [ktrTop, Around.deeper]; omega)) (by k_asm) (by k_mem) (by k_mem) (by (intro ps'; walk_at "upds")) (by assumption) (by walk_at "mytups") (by walk_at "mylens") (by walk_at "mylen") ?_); intro ps' h' gs' tk' t' F' N' hps' hAB' hlb'; (try dsimp only at N'); (try (refine Mine.len_back (by assumption) ?_)))) | fail "no")
  k_with "call ref" => (first | ((k_here; k_dflt ((first | with_reducible show wpAny _ _ (call (Value.ref 194) _) _ _ _ | with_reducible show wpAny _ _ (call (Value.ref (nat_lit 194)) _) _ _ _); refine' Mine.str_K _ _ _ _ _ _ _ _ _ _ _ _ _ _ _ _ _ _ _ _ _ _ _ _ _ _ _ _ _ _ (by k_asm) (by k_asm) (by k_asm) (by k_asm) (by first | assumption | exact rfl) (by (dsimp only [ktrTop, Around.deeper]; omega)) (by (dsimp only [ktrTop, Around.deeper]; omega)) (by k_asm) (by k_mem) (by k_mem) (by (intro ps'; walk_at "upds")) (by assumption) (by walk_at "mytups") (by walk_at "mylens") (by walk_at "mylen") ?_); intro ps' h' gs' tk' t' F' N' hps' hAB' hTk'; (try dsimp only at N'); (try dsimp only [W.StrBack]))) | fail "no")
  k_with "call ref" => (first | ((k_here; k_dflt ((first | with_reducible show wpAny _ _ (call (Value.ref 164) _) _ _ _ | with_reducible show wpAny _ _ (call (Value.ref (nat_lit 164)) _) _ _ _); refine' Mine.push_K _ _ _ _ _ _ _ _ _ _ _ _ _ _ _ _ _ _ _ _ _ _ _ _ _ _ _ _ _ _ _ _ (by k_asm) (by k_asm) (by k_asm) (by k_asm) (by first | assumption | exact rfl) (by (dsimp only [ktrTop, Around.deeper]; omega)) (by (dsimp only [ktrTop, Around.deeper]; omega)) (by k_asm) (by k_mem) (by (intro tp'; walk_at "upds")) (by walk_at "mylen") ?_); intro tp' h' tk' F' N' hne'; (try dsimp only at N'); (replace hne' := Mine.allNe_of hne'; dsimp only [Mine.AllNe] at hne'; walk_at "splitne"))) | fail "no")
  k_with "subscriptTail Name Slice ref ref" => (first | ((k_here; (with_reducible show wpAny _ _ (subscriptTail _ (PySem.Expr.Slice _ _ none _) (Value.ref _) (Value.ref _)) _ _ _); k_dflt (refine' Mine.slice_K (by k_asm) (by k_asm) (by k_asm) (by k_mem) (by k_mem) (by k_is) (by k_is) (by k_is) (by kmk_part) (by kmk_part) (by walk_at "mylen") (by first | exact Mine.pick_from (by assumption) | exact rfl) ?_ (by with_unfolding_all rfl) (by kmk_pure)); intro D' h' F' N' l1; (try k_lt l1))) | fail "no")
  k_with "setItem ref ref" => (first | ((k_here; k_dflt (refine' Mine.setitem_K (by k_asm) (by k_asm) (by k_asm) (by kmk_list) (by (intro n'; k_upd)) (by k_mem) (by k_is) (by k_is) (by k_is) (by kmk_part) (by kmk_part) (by walk_at "mylen") (by first | walk_at "mylen" | (simp; done)) (by first | exact Mine.set_from (by assumption) | exact Mine.set_all | exact rfl) ?_); intro n' h' F' N'; (try dsimp only at N'))) | fail "no")
  k_with "setAttr ref" => (first | ((k_here; k_dflt (refine' Mine.set_dictL (by k_asm) (by k_asm) (by k_asm) (by k_inst) (by exact rfl) (by k_is) (by exact Mine.mro220 _) (by k_is) (by k_is) (by k_get) (by k_put) (by k_upd) (by exact Nat.le_of_ble_eq_true rfl) ?_; k_whole; intro h' F' N'; (try k_sweep)))) | fail "no")
  k_with "wpAt" => (first | (((with_reducible show _root_.PySem.wpAt _ _ _ (execs (_ :: _) _) _ _ _); refine ks_wpAt_execs_cons ?_)) | fail "no")
  k_with "wpAt" => (first | ((ks_step "eval Call"; k_dflt (refine ks_wpAt_MethodCall ?_))) | fail "no")
  k_with "truthy ref" => (first | ((k_here; k_dflt (refine' Mine.truthy_lenL (by k_in) (by k_inst) (by k_is) (by k_is) (by k_is) ?_; k_whole))) | fail "no")
  k_with "Exists" => (first | ((refine ⟨_, _, rfl, ?_⟩)) | fail "no")
  k_with "units" => (first | (first | k_units | (dsimp only [ktrTop, Around.deeper, Around.in1]; omega) | (simp only [ktrTop, Around.deeper, Around.in1, Around.under]; omega)) | fail "no")
  k_with "call type:str" => (first | ((k_here; (with_reducible show wpAny _ _ (call (Value.type "str") [Value.ref _]) _ _ _); k_dflt (refine' kso_call (by walk_at "units") (by k_in) (by k_inst) (by k_is) (by k_is) ?_; k_whole))) | fail "no")
  k_with "call ref" => (first | ((k_here; k_dflt ((first | with_reducible show wpAny _ _ (call (Value.ref 180) _) _ _ _ | with_reducible show wpAny _ _ (call (Value.ref (nat_lit 180)) _) _ _ _); refine' Mine.pop_K _ _ _ _ _ _ _ _ _ _ _ _ _ _ _ _ _ _ _ _ _ _ _ _ _ _ _ _ _ (by k_asm) (by k_asm) (by k_asm) (by k_asm) (by first | assumption | exact rfl) (by (dsimp only [ktrTop, Around.deeper]; omega)) (by (dsimp only [ktrTop, Around.deeper]; omega)) (by k_asm) (by walk_at "upds") (by k_mem) (by walk_at "mylen") ?_); intro h' tk' F' N'; (try dsimp only at N'))) | fail "no")
  k_with "call ref" => (first | ((k_here; k_dflt ((first | with_reducible show wpAny _ _ (call (Value.ref 172) _) _ _ _ | with_reducible show wpAny _ _ (call (Value.ref (nat_lit 172)) _) _ _ _); refine' Mine.pop_from_K _ _ _ _ _ _ _ _ _ _ _ _ _ _ _ _ _ _ _ _ _ _ _ _ _ _ _ _ _ _ (by k_asm) (by k_asm) (by k_asm) (by k_asm) (by first | assumption | exact rfl) (by (dsimp only [ktrTop, Around.deeper]; omega)) (by (dsimp only [ktrTop, Around.deeper]; omega)) (by k_asm) (by (intro n'; walk_at "upds")) (by k_mem) (by walk_at "mylen") (by walk_at "mylen") ?_); intro D' n' h' tk' F' N' hne'; (try dsimp only at N'); (replace hne' := Mine.allNe_of hne'; dsimp only [Mine.AllNe] at hne'; walk_at "splitne"))) | fail "no")
  k_with "call ref" => (first | ((k_here; k_dflt ((first | with_reducible show wpAny _ _ (call (Value.ref 202) _) _ _ _ | with_reducible show wpAny _ _ (call (Value.ref (nat_lit 202)) _) _ _ _); refine' Mine.reset_K _ _ _ _ _ _ _ _ _ _ _ _ _ _ _ _ _ _ _ _ _ _ _ _ _ _ _ (by k_asm) (by k_asm) (by k_asm) (by k_asm) (by first | assumption | exact rfl) (by (dsimp only [ktrTop, Around.deeper]; omega)) (by (dsimp only [ktrTop, Around.deeper]; omega)) (by k_asm) (by k_mem) (by (intro n' t'; walk_at "upds")) (by walk_at "mylen") ?_); intro n' t' h' tk' F' N'; (try dsimp only at N'))) | fail "no")
  k_with "call ref" => (first | ((k_here; k_dflt ((first | with_reducible show wpAny _ _ (call (Value.ref 202) _) _ _ _ | with_reducible show wpAny _ _ (call (Value.ref (nat_lit 202)) _) _ _ _); refine' Mine.reset2_K _ _ _ _ _ _ _ _ _ _ _ _ _ _ _ _ _ _ _ _ _ _ _ _ _ _ _ _ _ _ (by k_asm) (by k_asm) (by k_asm) (by k_asm) (by first | assumption | exact rfl) (by (dsimp only [ktrTop, Around.deeper]; omega)) (by (dsimp only [ktrTop, Around.deeper]; omega)) (by k_asm) (by k_mem) (by k_mem) (by (intro n' t'; walk_at "upds")) (by walk_at "mylen") (by first | exact Nat.le_of_ble_eq_true rfl | walk_at "mylen") ?_); intro n' t' h' tk' F' N'; (try dsimp only at N'))) | fail "no")
  k_with "istup" => (first | (first | exact Mine.isTup_news (by k_asm) (by k_mem) | exact Mine.isTup_fr (by assumption) (by k_asm)) | fail "no")
  k_with "compareOp NotEq ref ref" => (first | ((k_here; k_dflt (refine Mine.tup_ne (by walk_at "istup") (by walk_at "istup") (by assumption) (by first | assumption | decide +kernel) (by first | assumption | decide +kernel) (by first | assumption | decide +kernel) (by first | assumption | decide +kernel) (by walk_at "units") ?_))) | fail "no")
  k_with "call ref" => (first | ((k_here; k_dflt ((first | with_reducible show wpAny _ _ (call (Value.ref 209) _) _ _ _ | with_reducible show wpAny _ _ (call (Value.ref (nat_lit 209)) _) _ _ _); refine' Mine.onlyws_K _ _ _ _ _ _ _ _ _ _ _ _ _ _ _ _ _ _ _ _ _ _ _ _ _ _ _ _ _ _ (by k_asm) (by k_asm) (by k_asm) (by k_asm) (by first | assumption | exact rfl) (by (dsimp only [ktrTop, Around.deeper]; omega)) (by (dsimp only [ktrTop, Around.deeper]; omega)) (by k_asm) (by k_mem) (by k_mem) (by k_mem) (by k_mem) (by (intro p2' p9'; walk_at "upds")) (by walk_at "mylen") (by assumption) (by assumption) (by walk_at "mytups") (by walk_at "mylens") (by assumption) (by assumption) ?_); intro p2' p9' h' gs' tk' F' N' hp2' hp9' hAB'; (try dsimp only at N'))) | fail "no")
  k_with "eval Call" => (first | ((k_here; (with_reducible show wpAny _ _ (eval (Expr.Call (Expr.Attribute _ _ _) [Expr.Starred _ _] [] _) _) _ _ _); k_dflt (refine' Mine.CallAttr_star ?_ (by with_unfolding_all rfl)))) | fail "no")
  k_with "eval Call Attribute" => (first | ((k_here; (with_reducible show wpAny _ _ (eval (Expr.Call (Expr.Attribute _ _ _) [Expr.Starred _ _] [] _) _) _ _ _); k_dflt (refine' Mine.CallAttr_star ?_ (by with_unfolding_all rfl)))) | fail "no")
  k_with "getAttr ref" => (first | ((k_here; k_dflt (refine' Mine.get_boundL (by k_inst) (by k_asm) (by k_asm) (by k_asm) (by k_is) (by k_is) (by k_is) (by k_is) (by k_is) (by k_is) (by k_is) (by k_is) (by decide +kernel) (by k_get) ?_; k_whole); intro q' h' F' N' l1; (try k_lt l1))) | fail "no")
  k_with "callWith ref" => (first | ((k_here; (with_reducible show wpAny _ _ (callWith _ (Value.ref _) _ (backTo _ (starEach [Expr.Starred _ _] _)) []) _ _ _); k_dflt (refine' Mine.callWith_star (by k_asm) (by k_asm) (by k_mem) (by exact Mine.func164 _) ?_))) | fail "no")
  k_with "StarOf ref" => (first | ((k_here; k_dflt (refine' Mine.star_tup (by k_asm) (by k_asm) (by walk_at "istup") (by exact Nat.le_of_ble_eq_true rfl) ?_; k_whole); intro h' F' N'; (try dsimp only [List.nil_append, List.cons_append]))) | fail "no")
  k_with "And" => (first | ((refine ⟨⟨by k_in, News.get (by k_asm) (by k_mem)⟩, ?_⟩)) | fail "no")
  k_with "call ref" => (first | ((k_here; k_dflt (refine' call_meth (by k_asm) (by k_mem) ?_; refine' Mine.push_KC _ _ _ _ _ _ _ _ _ _ _ _ _ _ _ _ _ _ _ _ _ _ _ _ _ _ _ _ _ _ _ _ (by k_asm) (by k_asm) (by k_asm) (by k_asm) (by first | assumption | exact rfl) (by (dsimp only [ktrTop, Around.deeper]; omega)) (by (dsimp only [ktrTop, Around.deeper]; omega)) (by k_asm) (by k_mem) (by (intro tp'; walk_at "upds")) (by walk_at "mylen") ?_); intro tp' h' tk' F' N' hne'; (try dsimp only at N'); (replace hne' := Mine.allNe_of hne'; dsimp only [Mine.AllNe] at hne'; walk_at "splitne"))) | fail "no")
  k_with "mytups" => (first | (first | exact Mine.TupsAt.keeps (by assumption) (fun b o e _ => Fr.keep (by k_asm) b o e) | exact Mine.TupsAt.push (by walk_at "mytups") (by walk_at "istup")) | fail "no")
  k_with "mylen" => (first | (first | omega | (simp only [Array.size_push, Array.size_extract]; omega)) | fail "no")
  k_with "ite" => (first | ((refine Mine.ite_so (by first | with_reducible assumption | exact decide_eq_true (by with_reducible assumption)) ?_)) | fail "no")
  k_with "exec For" => (first | ((k_here; k_dflt (refine' Mine.For_turns ?_ (by (intro _; with_unfolding_all rfl)) (by passes_own)))) | fail "no")
  k_with "pyIter str" => (first | ((k_here; k_dflt (refine' Mine.pyIter_str_K (by k_asm) (by k_asm) (by decide +kernel) ?_); intro I' o' h' hs' F' N' l1; (try k_lt l1); refine ⟨1, ?_⟩; refine Mine.turns_succ ?_)) | fail "no")
  k_with "call type:range" => (first | ((k_here; k_dflt (refine' Mine.range_K (by k_asm) (by k_asm) (by decide) (by exact PyProof.noPylong_small (by walk_at "mylen")) ?_); intro R' h' tk' t1' u1' v1' F' N' l1; (try k_lt l1))) | fail "no")
  k_with "pyNext ref" => (first | ((k_here; k_dflt (first | (refine' Mine.next_str_K (by k_asm) (by k_asm) (by assumption) (by (intro o'; k_upd)) (by exact rfl) ?_; intro o' h' t' hs' F' N'; (try dsimp only at N'); refine ⟨_, rfl, ?_⟩) | (refine' Mine.next_range_K (by k_asm) (by k_asm) (by k_upd) (by walk_at "mylen") ?_; intro h' t' F' N'; (try dsimp only at N'); refine ⟨_, rfl, ?_⟩)))) | fail "no")
  k_with "exec For Name Call" => (first | ((k_here; k_dflt (refine' Mine.For_turns ?_ (by (intro _; with_unfolding_all rfl)) (by passes_own)))) | fail "no")
  k_with "exec For Name Call cons nil" => (first | ((k_here; k_dflt (refine' Mine.For_turns ?_ (by (intro _; with_unfolding_all rfl)) (by passes_own)))) | fail "no")
  k_with "exec For Name Call cons cons" => (first | ((k_here; k_dflt (refine' Mine.For_turns ?_ (by (intro _; with_unfolding_all rfl)) (by passes_own)))) | fail "no")
  k_with "exec For Name Call nil cons" => (first | ((k_here; k_dflt (refine' Mine.For_turns ?_ (by (intro _; with_unfolding_all rfl)) (by passes_own)))) | fail "no")
  k_with "pyIter ref" => (first | ((k_here; k_dflt (refine' Mine.pyIter_range_K (by k_asm) (by k_asm) (by k_mem) (by exact Mine.small_down (by walk_at "mylen") (by walk_at "mylen")) ?_); intro I' h' F' N' l1; (try k_lt l1); (try (rw [Mine.size_down (by walk_at "mylen")] at N')); refine ⟨1, ?_⟩; refine Mine.turns_succ ?_)) | fail "no")
  k_with "subscriptTail" => (first | ((k_here; (with_reducible show wpAny _ _ (subscriptTail (PySem.Expr.Name _ _) _ (Value.ref _) (Value.int _ _)) _ _ _); k_dflt (refine' Mine.index_K (by k_asm) (by k_asm) (by k_asm) (by k_mem) (by k_mem) (by k_is) (by k_is) (by k_is) (by walk_at "mylen") (by walk_at "mylen") (by exact Mine.last_at) ?_ (by with_unfolding_all rfl) (by kmk_pure)))) | fail "no")
  k_with "call ref" => (first | ((k_here; k_dflt ((first | with_reducible show wpAny _ _ (call (Value.ref 172) _) _ _ _ | with_reducible show wpAny _ _ (call (Value.ref (nat_lit 172)) _) _ _ _); refine' Mine.pop_last_K _ _ _ _ _ _ _ _ _ _ _ _ _ _ _ _ _ _ _ _ _ _ _ _ _ _ _ _ _ _ _ (by k_asm) (by k_asm) (by k_asm) (by k_asm) (by first | assumption | exact rfl) (by (dsimp only [ktrTop, Around.deeper]; omega)) (by (dsimp only [ktrTop, Around.deeper]; omega)) (by k_asm) (by (intro n'; walk_at "upds")) (by k_mem) (by walk_at "mylen") (by exact Mine.last_ix) ?_); intro D' n' h' tk' F' N' hne'; (try dsimp only at N'); (replace hne' := Mine.allNe_of hne'; dsimp only [Mine.AllNe] at hne'; walk_at "splitne"))) | fail "no")
  k_with "call builtin:list.append" => (first | ((k_here; (with_reducible show wpAny _ _ (call (Value.builtin _) [Value.ref _, _]) _ _ _); k_dflt (refine' append_K (by k_asm) (by k_asm) (by k_upd) ?_ (by (rw [PySem.sizeLine_eq]; omega)); k_whole); intro h' F' N'; (try k_sweep))) | fail "no")
  k_with "pyIter ref" => (first | ((k_here; k_dflt (refine' Mine.pyIter_range_K (by k_asm) (by k_asm) (by k_mem) (by exact Mine.small_down (by walk_at "mylen") (by walk_at "mylen")) ?_); intro I' h' F' N' l1; (try k_lt l1); (try (rw [Mine.size_down (by walk_at "mylen")] at N')); refine ⟨0, ?_⟩; refine Mine.turns_zero ?_)) | fail "no")
  k_with "del" => (first | (first | (refine' Mine.Del.head (by k_all)) | (refine' Mine.Del.tail (by k_ne) (by walk_at "del"))) | fail "no")
  k_with "Turns" => (first | ((refine Mine.turns_zero ?_)) | fail "no")
  k_with "pyNext ref" => (first | ((k_here; k_dflt (first | (refine' Mine.end_str_K (by exact rfl) (by k_asm) (by k_asm) (by assumption) (by k_mem) (by walk_at "del") (by exact rfl) ?_; intro h' F' N'; (try dsimp only at N'); refine ⟨rfl, ?_⟩) | (refine' Mine.end_range_K (by exact rfl) (by k_asm) (by k_asm) (by k_mem) (by walk_at "del") (by walk_at "mylen") ?_; intro h' F' N'; (try dsimp only at N'); refine ⟨rfl, ?_⟩)))) | fail "no")
  trivial
set_option maxHeartbeats 4000000 in
theorem append_one_ok (w : World) {p : Program} {loose : List PySem.Str} {mean : ExcName → Option Value} {mg mb : PySem.Str → Option Value} (dp un : Nat) (gd : Option (List Code)) (cn : PySem.Str) (cs : Scope) (a : Addr) (ccd : Value) (cl : List (PySem.Str × Addr)) (outer : List Env) (A₀ : Around) (base h₀ : Heap) (L : Addr) (m : PySem.Str → Option Value) (s : Shared) (Q E : Value → Shared → Prop) (mk dmk ln x dx : Addr) (g1 g2 g3 g4 g5 g6 e1 mxl : Int) (m1 m2 m3 m4 m5 m6 m7 m8 m9 tW k1 t0 : Tok) (lns its : Array Value) (cn' n : Nat) (p2 p9 : Array Value) (ws : List PySem.Str) (v : PySem.Str) (tf tv : Tok)
    (B : Below A₀ base outer h₀) (F : Fr h₀ L s.heap m) (X : (Mine.hd.heap_1 w.params).In h₀) (T : Top p loose mean mg mb h₀) (hk : cs.kind = .function) (hd : dp + 10 < recursionLimit) (hu : un + 200 < cLine)
    (N : News h₀ L s.heap [(mk, instObj 136 dmk), (dmk, dictOf [⟨g1, .str (Str.ofString "_maxlen") m1, .int mxl tW⟩, ⟨g2, .str (Str.ofString "_continuation_ws") m2, .str (Str.ofString " ") m3⟩, ⟨g3, .str (Str.ofString "_continuation_ws_len") m4, .int 1 m5⟩, ⟨g4, .str (Str.ofString "_splitchars") m6, .str (Str.ofString " ") m7⟩, ⟨g5, .str (Str.ofString "_lines") m8, .ref ln⟩, ⟨g6, .str (Str.ofString "_current_line") m9, .ref x⟩] 6), (ln, W.listOf lns cn'), (x, accO dx its n), (dx, dictOf [⟨e1, .str (Str.ofString "_initial_size") k1, .int 0 t0⟩] 1), (182, tabObj p2), (189, tabObj p9)])
    (hne : NeA mk dmk ∧ NeA mk ln ∧ NeA mk x ∧ NeA mk dx ∧ NeA mk 182 ∧ NeA mk 189 ∧ NeA dmk ln ∧ NeA dmk x ∧ NeA dmk dx ∧ NeA dmk 182 ∧ NeA dmk 189 ∧ NeA ln x ∧ NeA ln dx ∧ NeA ln 182 ∧ NeA ln 189 ∧ NeA x dx ∧ NeA x 182 ∧ NeA x 189 ∧ NeA dx 182 ∧ NeA dx 189)
    (hsz : its.size = 0) (hcut : lenW (ws ++ [v]) > mxl) (hsl : lns.size ≤ 900) (hp2 : psOk pos132 p2) (hp9 : psOk pos135 p9) (hT : TupsAt s.heap its ws)
    (hl : ∀ u ∈ ws ++ [v], u.length ≤ 1000)
    (hret : ∀ tp c' n' t' (t1 : Tok) p2' p9' h' gs tk', Fr h₀ L h' m → News h₀ L h' [(tp, { cls := .type "tuple", data := .seq #[.str (Str.ofString " ") tf, .str v tv] }), (mk, instObj 136 dmk), (dmk, dictOf [⟨g1, .str (Str.ofString "_maxlen") m1, .int mxl tW⟩, ⟨g2, .str (Str.ofString "_continuation_ws") m2, .str (Str.ofString " ") m3⟩, ⟨g3, .str (Str.ofString "_continuation_ws_len") m4, .int 1 m5⟩, ⟨g4, .str (Str.ofString "_splitchars") m6, .str (Str.ofString " ") m7⟩, ⟨g5, .str (Str.ofString "_lines") m8, .ref ln⟩, ⟨g6, .str (Str.ofString "_current_line") m9, .ref x⟩] 6), (ln, W.listOf lns c'), (x, accO dx (its.push (.ref tp)) n'), (dx, dictOf [⟨e1, .str (Str.ofString "_initial_size") k1, .int 0 t'⟩] 1), (182, tabObj p2'), (189, tabObj p9')] → psOk pos132 p2' → psOk pos135 p9' → (AllBare s.gens → AllBare gs) → KB [(mk, instObj 136 dmk), (dmk, dictOf [⟨g1, .str (Str.ofString "_maxlen") m1, .int mxl tW⟩, ⟨g2, .str (Str.ofString "_continuation_ws") m2, .str (Str.ofString " ") m3⟩, ⟨g3, .str (Str.ofString "_continuation_ws_len") m4, .int 1 m5⟩, ⟨g4, .str (Str.ofString "_splitchars") m6, .str (Str.ofString " ") m7⟩, ⟨g5, .str (Str.ofString "_lines") m8, .ref ln⟩, ⟨g6, .str (Str.ofString "_current_line") m9, .ref x⟩] 6), (ln, W.listOf lns cn'), (x, accO dx its n), (dx, dictOf [⟨e1, .str (Str.ofString "_initial_size") k1, .int 0 t0⟩] 1), (182, tabObj p2), (189, tabObj p9)] s.heap h' → s.heap.get? tp = none → Q .none { s with heap := h', gens := gs, toks := tk' })
    : wpAny (model PySem.Challenge.rw_wn0105_01.row.prog w) (ktrTop dp un gd cn cs L a ccd cl outer) (call (.ref 133) [.ref mk, .str (Str.ofString " ") tf, .str v tv]) Q E s := by
  obtain ⟨a1, a2, a3, a4, a5, a6, a7, a8, a9, a10, a11, a12, a13, a14, a15, a16, a17, a18, a19, a20⟩ := hne
  have hlw : ∀ u ∈ ws, u.length ≤ 1000 := fun u hu => hl u (List.mem_append_left _ hu)
  revert X; k_fill; intro X
  refine wpAny_call ?_
  k_dflt walk_at "myenter"
  (rename Fr _ _ _ _ => kF')
  replace kF' : Fr _ _ _ (fun y => List.lookup y [(Str.ofString "string", Value.str v tv), (Str.ofString "fws", Value.str (Str.ofString " ") tf), (Str.ofString "self", Value.ref mk)]) := kF'
  (have hTg := TupsAt.kb hT N (by assumption) (by simp))
  k_steps
  exact hret _ _ _ _ tf _ _ _ _ _ (by k_asm) (by walk_at "news") (by assumption) (by assumption) (by intro hx; solve_by_elim) (by walk_at "kb") (Mine.fresh_in (by assumption) (by assumption) (by k_mem) (by k_all))
end Mine
end
section
open PySem PySem.W PyProof.Rows PySem.Calls PySem.Spec
set_option maxRecDepth 100000
namespace Mine
/-- does a word open a new row? -/
def cutB (mxl : Int) (ws : List PySem.Str) (v : PySem.Str) : Bool := !ws.isEmpty && decide (lenW (ws ++ [v]) > mxl)
theorem append_K (w : World) {p : Program} {loose : List PySem.Str} {mean : ExcName → Option Value} {mg mb : PySem.Str → Option Value} (dp un : Nat) (gd : Option (List Code)) (cn : PySem.Str) (cs : Scope) (a : Addr) (ccd : Value) (cl : List (PySem.Str × Addr)) (outer : List Env) (A₀ : Around) (base h₀ : Heap) (L : Addr) (m : PySem.Str → Option Value) (s : Shared) (Q E : Value → Shared → Prop) (mk dmk ln x dx : Addr) (g1 g2 g3 g4 g5 g6 e1 mxl : Int) (m1 m2 m3 m4 m5 m6 m7 m8 m9 tW k1 t0 : Tok) (lns its : Array Value) (cn' n : Nat) (p2 p9 : Array Value) (ws : List PySem.Str) (v : PySem.Str) (tf tv : Tok) (news : List (Addr × Obj)) (news' : Addr → Nat → Nat → Tok → Tok → Array Value → Array Value → List (Addr × Obj))
    (B : Below A₀ base outer h₀) (F : Fr h₀ L s.heap m) (X : (Mine.hd.heap_1 w.params).In h₀) (T : Top p loose mean mg mb h₀) (hk : cs.kind = .function) (hd : dp + 10 < recursionLimit) (hu : un + 200 < cLine)
    (N : News h₀ L s.heap news) (i1 : (mk, instObj 136 dmk) ∈ news) (i2 : (dmk, dictOf [⟨g1, .str (Str.ofString "_maxlen") m1, .int mxl tW⟩, ⟨g2, .str (Str.ofString "_continuation_ws") m2, .str (Str.ofString " ") m3⟩, ⟨g3, .str (Str.ofString "_continuation_ws_len") m4, .int 1 m5⟩, ⟨g4, .str (Str.ofString "_splitchars") m6, .str (Str.ofString " ") m7⟩, ⟨g5, .str (Str.ofString "_lines") m8, .ref ln⟩, ⟨g6, .str (Str.ofString "_current_line") m9, .ref x⟩] 6) ∈ news) (i3 : (ln, W.listOf lns cn') ∈ news) (i4 : (x, accO dx its n) ∈ news) (i5 : (dx, dictOf [⟨e1, .str (Str.ofString "_initial_size") k1, .int 0 t0⟩] 1) ∈ news) (i6 : (182, tabObj p2) ∈ news) (i7 : (189, tabObj p9) ∈ news)
    (U : ∀ tp c' n' t' t1 p2' p9', Upds [(ln, W.listOf lns cn'), (x, accO dx its n), (dx, dictOf [⟨e1, .str (Str.ofString "_initial_size") k1, .int 0 t0⟩] 1), (182, tabObj p2), (189, tabObj p9)] [(ln, W.listOf (if cutB mxl ws v then lns.push (.str (txt ws) t1) else lns) c'), (x, accO dx (if cutB mxl ws v then #[.ref tp] else its.push (.ref tp)) n'), (dx, dictOf [⟨e1, .str (Str.ofString "_initial_size") k1, .int 0 t'⟩] 1), (182, tabObj p2'), (189, tabObj p9')] news (news' tp c' n' t' t1 p2' p9'))
    (hsz : its.size ≤ 800) (hsl : lns.size ≤ 900) (hp2 : psOk pos132 p2) (hp9 : psOk pos135 p9) (hT : TupsAt s.heap its ws)
    (hl : ∀ u ∈ ws ++ [v], u.length ≤ 1000)
    (h : ∀ tp c' n' t' t1 p2' p9' h' gs tk', Fr h₀ L h' m → News h₀ L h' ((tp, { cls := .type "tuple", data := .seq #[.str (Str.ofString " ") tf, .str v tv] }) :: news' tp c' n' t' t1 p2' p9') → psOk pos132 p2' → psOk pos135 p9' → (AllBare s.gens → AllBare gs) → Tk s.heap h' → (∀ p ∈ news, p.1 ≠ tp) → Q .none { s with heap := h', gens := gs, toks := tk' })
    : wpAny (model PySem.Challenge.rw_wn0105_01.row.prog w) (ktrTop dp un gd cn cs L a ccd cl outer) (call (.ref 133) [.ref mk, .str (Str.ofString " ") tf, .str v tv]) Q E s := by
  have N7 : News h₀ L s.heap [(mk, instObj 136 dmk), (dmk, dictOf [⟨g1, .str (Str.ofString "_maxlen") m1, .int mxl tW⟩, ⟨g2, .str (Str.ofString "_continuation_ws") m2, .str (Str.ofString " ") m3⟩, ⟨g3, .str (Str.ofString "_continuation_ws_len") m4, .int 1 m5⟩, ⟨g4, .str (Str.ofString "_splitchars") m6, .str (Str.ofString " ") m7⟩, ⟨g5, .str (Str.ofString "_lines") m8, .ref ln⟩, ⟨g6, .str (Str.ofString "_current_line") m9, .ref x⟩] 6), (ln, W.listOf lns cn'), (x, accO dx its n), (dx, dictOf [⟨e1, .str (Str.ofString "_initial_size") k1, .int 0 t0⟩] 1), (182, tabObj p2), (189, tabObj p9)] :=
    newsAll N (by simp only [List.mem_cons, List.not_mem_nil, or_false, forall_eq_or_imp, forall_eq]; exact ⟨i1, i2, i3, i4, i5, i6, i7⟩)
  have dd : (dictOf [⟨g1, .str (Str.ofString "_maxlen") m1, .int mxl tW⟩, ⟨g2, .str (Str.ofString "_continuation_ws") m2, .str (Str.ofString " ") m3⟩, ⟨g3, .str (Str.ofString "_continuation_ws_len") m4, .int 1 m5⟩, ⟨g4, .str (Str.ofString "_splitchars") m6, .str (Str.ofString " ") m7⟩, ⟨g5, .str (Str.ofString "_lines") m8, .ref ln⟩, ⟨g6, .str (Str.ofString "_current_line") m9, .ref x⟩] 6 : Obj) ≠ dictOf [⟨e1, .str (Str.ofString "_initial_size") k1, .int 0 t0⟩] 1 := by intro e; simp [dictOf] at e
  have ld : ∀ a b c d, (W.listOf a b).cls ≠ (dictOf c d).cls := by intro a b c d hc; injection hc with hc; exact absurd hc (by decide)
  have dl : ∀ a b c d, (dictOf c d).cls ≠ (W.listOf a b).cls := by intro a b c d hc; injection hc with hc; exact absurd hc (by decide)
  have hne : NeA mk dmk ∧ NeA mk ln ∧ NeA mk x ∧ NeA mk dx ∧ NeA mk 182 ∧ NeA mk 189 ∧ NeA dmk ln ∧ NeA dmk x ∧ NeA dmk dx ∧ NeA dmk 182 ∧ NeA dmk 189 ∧ NeA ln x ∧ NeA ln dx ∧ NeA ln 182 ∧ NeA ln 189 ∧ NeA x dx ∧ NeA x 182 ∧ NeA x 189 ∧ NeA dx 182 ∧ NeA dx 189 :=
    ⟨ne_obj N i1 i2 nofun, ne_obj N i1 i3 nofun, ne_obj N i1 i4 nofun, ne_obj N i1 i5 nofun, ne_obj N i1 i6 nofun, ne_obj N i1 i7 nofun, ne_obj N i2 i3 (dl _ _ _ _), ne_obj N i2 i4 nofun, ne_obj2 N i2 i5 dd, ne_obj N i2 i6 nofun, ne_obj N i2 i7 nofun,
      ne_obj N i3 i4 nofun, ne_obj N i3 i5 (ld _ _ _ _), ne_obj N i3 i6 nofun, ne_obj N i3 i7 nofun, ne_obj N i4 i5 nofun, ne_obj N i4 i6 nofun, ne_obj N i4 i7 nofun, ne_obj N i5 i6 nofun, ne_obj N i5 i7 nofun⟩
  have fin : ∀ (A B : Obj) tp c' n' t' t1 p2' p9' h' gs tk', A = W.listOf (if cutB mxl ws v then lns.push (.str (txt ws) t1) else lns) c' → B = accO dx (if cutB mxl ws v then #[.ref tp] else its.push (.ref tp)) n' → Fr h₀ L h' m → News h₀ L h' [(tp, { cls := .type "tuple", data := .seq #[.str (Str.ofString " ") tf, .str v tv] }), (mk, instObj 136 dmk), (dmk, dictOf [⟨g1, .str (Str.ofString "_maxlen") m1, .int mxl tW⟩, ⟨g2, .str (Str.ofString "_continuation_ws") m2, .str (Str.ofString " ") m3⟩, ⟨g3, .str (Str.ofString "_continuation_ws_len") m4, .int 1 m5⟩, ⟨g4, .str (Str.ofString "_splitchars") m6, .str (Str.ofString " ") m7⟩, ⟨g5, .str (Str.ofString "_lines") m8, .ref ln⟩, ⟨g6, .str (Str.ofString "_current_line") m9, .ref x⟩] 6), (ln, A), (x, B), (dx, dictOf [⟨e1, .str (Str.ofString "_initial_size") k1, .int 0 t'⟩] 1), (182, tabObj p2'), (189, tabObj p9')] → psOk pos132 p2' → psOk pos135 p9' → (AllBare s.gens → AllBare gs) → KB [(mk, instObj 136 dmk), (dmk, dictOf [⟨g1, .str (Str.ofString "_maxlen") m1, .int mxl tW⟩, ⟨g2, .str (Str.ofString "_continuation_ws") m2, .str (Str.ofString " ") m3⟩, ⟨g3, .str (Str.ofString "_continuation_ws_len") m4, .int 1 m5⟩, ⟨g4, .str (Str.ofString "_splitchars") m6, .str (Str.ofString " ") m7⟩, ⟨g5, .str (Str.ofString "_lines") m8, .ref ln⟩, ⟨g6, .str (Str.ofString "_current_line") m9, .ref x⟩] 6), (ln, W.listOf lns cn'), (x, accO dx its n), (dx, dictOf [⟨e1, .str (Str.ofString "_initial_size") k1, .int 0 t0⟩] 1), (182, tabObj p2), (189, tabObj p9)] s.heap h' → s.heap.get? tp = none → Q .none { s with heap := h', gens := gs, toks := tk' } := by
    intro A B tp c' n' t' t1 p2' p9' h' gs tk' eA eB F' N' q2 q9 hb kb hf
    subst eA; subst eB
    refine h tp c' n' t' t1 p2' p9' h' gs tk' F' (fun p hp => ?_) q2 q9 hb (Tk.of N7 kb (by simp)) (ne_fresh N hf)
    rcases List.mem_cons.mp hp with rfl | hp
    · exact N' _ (.head _)
    · refine news_upds N N7 (U tp c' n' t' t1 p2' p9') kb N' (by simp) ?_ p hp
      intro p hp hn
      simp only [List.mem_cons, List.not_mem_nil, or_false] at hp
      rcases hp with rfl | rfl | rfl | rfl | rfl | rfl | rfl
      · simp
      · simp
      all_goals exact absurd (by simp) hn
  cases hc : cutB mxl ws v with
  | true =>
    obtain ⟨c1, c2⟩ := Bool.and_eq_true_iff.mp hc
    have c2 := of_decide_eq_true c2
    have hj : ∃ j, its.size = j + 1 := by
      rw [hT.1]
      cases ws with
      | nil => simp at c1
      | cons a r => exact ⟨r.length, rfl⟩
    obtain ⟨j, hj⟩ := hj
    refine append_cut_ok w dp un gd cn cs a ccd cl outer A₀ base h₀ L m s Q E mk dmk ln x dx g1 g2 g3 g4 g5 g6 e1 mxl m1 m2 m3 m4 m5 m6 m7 m8 m9 tW k1 t0 lns its cn' n p2 p9 ws v tf tv B F X T hk hd hu N7 hne j hj (by omega) c2 hsl hp2 hp9 hT hl fun tp c' n' t' t1 p2' p9' h' gs tk' F' N' q2 q9 hb kb hf => fin _ _ tp c' n' t' t1 p2' p9' h' gs tk' (by rw [hc]; rfl) (by rw [hc]; rfl) F' N' q2 q9 hb kb hf
  | false =>
    by_cases hov : lenW (ws ++ [v]) > mxl
    · have hw : ws = [] := by
        cases ws with
        | nil => rfl
        | cons a r =>
          exfalso
          have e : cutB mxl (a :: r) v = true := by unfold cutB; rw [decide_eq_true hov]; rfl
          rw [e] at hc; cases hc
      have hz : its.size = 0 := by rw [hT.1, hw]; rfl
      refine append_one_ok w dp un gd cn cs a ccd cl outer A₀ base h₀ L m s Q E mk dmk ln x dx g1 g2 g3 g4 g5 g6 e1 mxl m1 m2 m3 m4 m5 m6 m7 m8 m9 tW k1 t0 lns its cn' n p2 p9 ws v tf tv B F X T hk hd hu N7 hne hz hov hsl hp2 hp9 hT hl fun tp c' n' t' t1 p2' p9' h' gs tk' F' N' q2 q9 hb kb hf => fin _ _ tp c' n' t' t1 p2' p9' h' gs tk' (by rw [hc]; rfl) (by rw [hc]; rfl) F' N' q2 q9 hb kb hf
    · refine append_no_ok w dp un gd cn cs a ccd cl outer A₀ base h₀ L m s Q E mk dmk ln x dx g1 g2 g3 g4 g5 g6 e1 mxl m1 m2 m3 m4 m5 m6 m7 m8 m9 tW k1 t0 lns its cn' n p2 p9 ws v tf tv B F X T hk hd hu N7 hne hsz hov hsl hp2 hp9 hT hl fun tp c' n' t' t1 p2' p9' h' gs tk' F' N' q2 q9 hb kb hf => fin _ _ tp c' n' t' t1 p2' p9' h' gs tk' (by rw [hc]; rfl) (by rw [hc]; rfl) F' N' q2 q9 hb kb hf
end Mine
end
section
open PySem PySem.W PyProof.Rows PySem.Calls PySem.Spec PySem.Builtin PySem.Builtin.ObjectAttr PySem.Builtin.Getset_descriptor
set_option maxRecDepth 100000
set_option maxHeartbeats 1000000
namespace Mine
def makesLIn (K : Frag) (C : Addr) : Bool := match K.lookup C with
  | some ⟨_, _, .cls cd, sl⟩ => !cd.abstract && !cd.hasDel && (sl.toList[4]?).join == some (.builtin "list.__new__") && !cd.mro.isEmpty && cd.mro.contains (.ref C) && cd.mro.contains (.type "list") &&
      specialIn K (.ref C) "__call__" == some (some (.builtin "type.__call__")) && instIn K (.ref C) (.type "type") == some true
  | _ => false
theorem makesL220 (P : Params) : makesLIn (Mine.hd.heap_1 P) 220 = true := by kernel_rfl
theorem kindLN : builtinKind "list.__new__" = some .builtinFn := by decide +kernel
theorem splitLN : splitId "list.__new__" = some ("list", "__new__") := by decide +kernel
theorem sigLN : Manifest.signature? "list.__new__" = some { machinery := .any, full := "list", short := "list", receiver := .cls, params := [{ name := "args", kind := .varPos, required := false }, { name := "kwargs", kind := .varKw, required := false }] } := by kernel_rfl
structure MakesL (M : Model) (h : Heap) (C : Addr) : Prop where
  obj : ∃ oc od cd sl, h.get? C = some ⟨oc, od, .cls cd, sl⟩ ∧ cd.abstract = false ∧ cd.hasDel = false ∧ cd.mro.isEmpty = false
  made : Looks M h (Bind.madeBy (.ref C)) (some "list.__new__")
  base : Looks M h (Bind.staticBase (.ref C)) (.ref C)
  self : Looks M h (isSubtype (.ref C) (.ref C)) true
  top : Looks M h (isSubtype (.ref C) (.type "list")) true
  call : Looks M h (specialOf (.ref C) "__call__") (some (.builtin "type.__call__"))
  typ : Looks M h (isInstance (.ref C) (.type "type")) true
theorem makesL_of {K : Frag} {M : Model} {h : Heap} (X : K.In h) {C : Addr} (e : makesLIn K C = true) : MakesL M h C := by
  unfold makesLIn at e
  split at e
  · rename_i oc od cd sl ho
    simp only [Bool.and_eq_true, Bool.not_eq_true', beq_iff_eq] at e
    obtain ⟨⟨⟨⟨⟨⟨⟨e1, e2⟩, e3⟩, e4⟩, e5⟩, e6⟩, e7⟩, e8⟩ := e
    have hc : clsIn K C = some cd := by unfold clsIn; rw [ho]
    have hm : Looks M h (mroOf (.ref C)) cd.mro := (looks_clsIn X hc).andThen .now
    obtain ⟨c, l, hl⟩ : ∃ c l, cd.mro = c :: l := by cases q : cd.mro with | nil => rw [q] at e4; cases e4 | cons c l => exact ⟨c, l, rfl⟩
    have made : Looks M h (Bind.madeBy (.ref C)) (some "list.__new__") := by
      intro A Q E s k q
      unfold Bind.madeBy
      refine wpAny_bind (hm A _ E s k ?_)
      rw [hl, List.forIn_cons]
      refine wpAny_bind (wpAny_bind (wpAny_bind (wpAny_bind (wpAny_loadPart (k _ _ (X _ _ ho)) (wpAny_pure ?_)))))
      dsimp only
      rw [← Array.getElem?_toList, e3]
      exact wpAny_pure (wpAny_pure (wpAny_pure q))
    refine ⟨⟨oc, od, cd, sl, X _ _ ho, e1, e2, e4⟩, made, ?_, looks_mroIn X ?_, looks_mroIn X ?_, looks_specialIn X e7, looks_instIn X e8⟩
    · intro A Q E s k q
      unfold Bind.staticBase
      refine wpAny_bind (hm A _ E s k ?_)
      rw [hl, List.forIn_cons]
      exact wpAny_bind (wpAny_bind (wpAny_bind (made A _ E s k (wpAny_pure (wpAny_pure (wpAny_pure q))))))
    · unfold mroIn; rw [hc, Option.bind_some, if_neg (by rw [e4]; decide), e5]
    · unfold mroIn; rw [hc, Option.bind_some, if_neg (by rw [e4]; decide), e6]
  · cases e
section
variable {prog : Program} {w : World} {A : Around} {C : Addr} {R : Result → Shared → Prop} {h : Heap} {g : Array GenState} {d : Drawn} {t : Nat} {os : OsState}
abbrev accO' (C dx : Addr) : Obj := { cls := .ref C, dict := some dx, data := .seq #[] }
theorem newL_K {rest : List Value} (Y : MakesL (model prog w) h C)
    (hq : R (.ok (.ret (.ref (h.objs.size + 1)))) ⟨(h.push emptyDict).push (accO' C h.objs.size), g, d, t, os⟩) :
    codeAny (model prog w) A (.call (.builtin "list.__new__") ⟨.ref C :: rest, []⟩) R ⟨h, g, d, t, os⟩ := by
  obtain ⟨⟨oc, od, cd, sl, hC, e1, e2, e4⟩, made, base, self, top, call, typ⟩ := Y
  have hown := owner_list_new
  refine codeAny_of_tree ?_
  show wpAny _ A.in1 (do checkBuiltinCall "list.__new__" ⟨.ref C :: rest, []⟩; again (.builtin "list.__new__" ⟨.ref C :: rest, []⟩)) _ _ _
  refine wpAny_bind ?_
  simp only [checkBuiltinCall, kindLN, splitLN, sigLN]
  have args : Bind.checkArgs "list.__new__" { machinery := .any, full := "list", short := "list", receiver := .cls, params := [{ name := "args", kind := .varPos, required := false }, { name := "kwargs", kind := .varKw, required := false }] } ⟨.ref C :: rest, []⟩ = pure () := by kernel_rfl
  rw [args]
  repeat (first | simp only [bne_self_eq_false, Bool.false_eq_true, if_false] | lk)
  refine ⟨plainId_quiet F.plain_list_new _, codeAny_builtin_stack F.entry_list_new rfl fun p st => ?_⟩
  rw [Around.under_plainId F.plain_list_new _]
  simp only [hown]
  repeat lk
  refine nd_load (Heap.get?_push_of_some _ (Heap.get?_push_of_some _ hC)) ?_
  refine wpAny_pure ?_
  show wpAny _ _ (pure cd.hasDel) _ _ _
  rw [e2]
  refine wpAny_pure ?_
  rw [if_neg (by decide)]
  refine wpAny_pure ?_
  refine wpAny_pure ?_
  show R _ _
  rw [Heap.size_push]
  exact hq

theorem makeL_core {rest : List Value} {init : Value} (Y : MakesL (model prog w) h C) (hi : Looks (model prog w) h (typeLookup (.ref C) "__init__") (some init))
    (hb : ∀ self, Looks (model prog w) h (bindSpecial init self) (init, [self]))
    (hq : codeAny (model prog w) (A.under (.builtin "type.__call__" ⟨.ref C :: rest, []⟩)) (.call init ⟨.ref (h.objs.size + 1) :: rest, []⟩) (InitBack (h.objs.size + 1) R) ⟨(h.push emptyDict).push (accO' C h.objs.size), g, d, t, os⟩) :
    codeAny (model prog w) A (.call (.ref C) ⟨rest, []⟩) R ⟨h, g, d, t, os⟩ := by
  have Y' := Y
  obtain ⟨⟨oc, od, cd, sl, hC, e1, e2, e4⟩, made, base, self, top, call, typ⟩ := Y
  refine codeAny_of_tree ?_
  show wpAny _ _ (callAny (.ref C) _) _ _ _
  refine nd_load hC ?_
  show wpAny _ _ (callAny.viaDunder (.ref C) _) _ _ _
  unfold callAny.viaDunder
  refine wpAny_bind (call.at ?_)
  dsimp only
  rw [tc_bind]
  refine wpAny_bind (wpAny_pure (wpAny_bind (wpAny_pure ?_)))
  refine wpAny_pure (a := Fin.again (.call (.builtin "type.__call__") ⟨.ref C :: rest, []⟩)) (And.intro rfl ?_)
  refine codeAny_call_builtin_at (Code.quiet_builtin _ (by decide +kernel)) entry_typeCall (check_slot tc_kind tc_split typ (tc_args _ _ _) ?_)
  unfold Builtin.«type.__call__»
  have hm : Looks (model prog w) h (mroOf (.ref C)) cd.mro := ((Looks.ld (part := none) hC).andThen .now).andThen .now
  repeat (first | simp only [e4, Bool.false_eq_true, if_false] | with_reducible refine wpAny_call ?_ | lk)
  refine newL_K Y' ?_
  have k : ∀ b o, h.get? b = some o → ((h.push emptyDict).push (accO' C h.objs.size)).get? b = some o := fun b o e => Heap.get?_push_of_some _ (Heap.get?_push_of_some _ e)
  have hx : ((h.push emptyDict).push (accO' C h.objs.size)).get? (h.objs.size + 1) = some (accO' C h.objs.size) := by heap_get
  have t1 : Looks (model prog w) ((h.push emptyDict).push (accO' C h.objs.size)) (typeOf (.ref (h.objs.size + 1))) (.ref C) := (Looks.ld hx).andThen .now
  have s1 := self.keeps k
  have i1 := hi.keeps k
  have b1 := (hb (.ref (h.objs.size + 1))).keeps k
  unfold isInstance callSpecial? specialOf
  repeat (first | with_reducible refine wpAny_call ?_ | lk)
  refine codeAny_mono hq fun r s' z => ?_
  rcases r with e | (v | _ | _ | _) <;> first | exact z | exact z.elim | skip
  obtain ⟨rfl, z⟩ := z
  exact wpAny_pure (wpAny_pure z)
end
section
variable {prog : Program} {w : World} {A : Around} {K : Frag} {C x : Addr} {s : Shared} {h₀ : Heap} {L : Addr} {m : PySem.Str → Option Value} {news : List (Addr × Obj)} {R : Result → Shared → Prop} {E : Value → Shared → Prop} {Q : Value → Shared → Prop}
theorem makeL_K {rest : List Value} {fI : Addr} (F : Fr h₀ L s.heap m) (N : News h₀ L s.heap news) (X : K.In s.heap) (hm : makesLIn K C = true)
    (hi : findIn K (.ref C) "__init__" = some (some (.ref fI))) (hf : typeIn K (.ref fI) = some (.type "function"))
    (h : ∀ x dx h', Fr h₀ L h' m → News h₀ L h' ((x, accO' C dx) :: (dx, emptyDict) :: news) → (∀ p ∈ news, p.1 < dx) → dx < x →
      codeAny (model prog w) (A.under (.builtin "type.__call__" ⟨.ref C :: rest, []⟩)) (.call (.ref fI) ⟨.ref x :: rest, []⟩) (InitBack x R) { s with heap := h' }) :
    codeAny (model prog w) A (.call (.ref C) ⟨rest, []⟩) R s := by
  obtain ⟨hh, g, d, t, os⟩ := s
  refine makeL_core (makesL_of X hm) (looks_findIn X hi) (fun self => bind_fn X self hf) (h _ hh.objs.size _ ((F.push _).push _) ?_ (fun p hp => Heap.lt_size (N p hp).1) (Nat.lt_succ_self _))
  have := (N.push F emptyDict).push (F.push _) (accO' C hh.objs.size)
  rwa [Heap.size_push] at this
theorem call_clsL {pos : List Value} {fI : Addr} (F : Fr h₀ L s.heap m) (X₀ : K.In h₀) (N : News h₀ L s.heap news) (hm : makesLIn K C = true) (hi : findIn K (.ref C) "__init__" = some (some (.ref fI))) (hf : isFn K (.ref fI) = true)
    (h : ∀ x dx h', Fr h₀ L h' m → News h₀ L h' ((x, accO' C dx) :: (dx, dictOf [] 0) :: news) → (∀ p ∈ news, p.1 < dx) → dx < x →
      codeAny (model prog w) (A.under (.builtin "type.__call__" ⟨.ref C :: pos, []⟩)) (.call (.ref fI) ⟨.ref x :: pos, []⟩) (InitBack x fun r s' => match r with | .ok (.ret v) => Q v s' | .ok _ => False | .error e => E e s') { s with heap := h' }) :
    wpAny (model prog w) A (call (.ref C) pos []) Q E s := wpAny_call (makeL_K F N (X₀.keeps F.keep) hm hi (beq_iff_eq.mp hf) h)
end
end Mine
end
section
open PySem PySem.W PyProof.Rows PySem.Calls PySem.Spec
set_option maxRecDepth 100000
set_option maxHeartbeats 1000000
namespace Mine
section
variable {prog : Program} {w : World} {A : Around} {K : Frag} {C x : Addr} {s : Shared} {h₀ : Heap} {L : Addr} {m : PySem.Str → Option Value} {news : List (Addr × Obj)} {R : Result → Shared → Prop} {E : Value → Shared → Prop} {Q : Value → Shared → Prop}
theorem call_clsR {pos : List Value} {kw : List (PySem.Str × Value)} {fI : Addr} (F : Fr h₀ L s.heap m) (X₀ : K.In h₀) (N : News h₀ L s.heap news) (hm : makesIn K C = true) (hi : findIn K (.ref C) "__init__" = some (some (.ref fI))) (hf : isFn K (.ref fI) = true)
    (h : ∀ x dx h', Fr h₀ L h' m → News h₀ L h' ((x, instObj C dx) :: (dx, dictOf [] 0) :: news) → dx < x → (∀ b o, s.heap.get? b = some o → h'.get? b = some o) → s.heap.get? x = none → s.heap.get? dx = none →
      codeAny (model prog w) (A.under (.builtin "type.__call__" ⟨.ref C :: pos, kw⟩)) (.call (.ref fI) ⟨.ref x :: pos, kw⟩) (InitBack x fun r s' => match r with | .ok (.ret v) => Q v s' | .ok _ => False | .error e => E e s') { s with heap := h' }) :
    wpAny (model prog w) A (call (.ref C) pos kw) Q E s := by
  have X := X₀.keeps F.keep
  refine wpAny_call ?_
  obtain ⟨hh, g, d, t, os⟩ := s
  refine make_core (makes_of X hm) (looks_findIn X hi) (fun self => bind_fn X self (beq_iff_eq.mp hf)) (.inl rfl) (h _ hh.objs.size _ ((F.push _).push _) ?_ (Nat.lt_succ_self _) (fun b o e => Heap.get?_push_of_some _ (Heap.get?_push_of_some _ e)) (Heap.get?_none_of_le (Nat.le_succ _)) (Heap.get?_none_of_le (Nat.le_refl _)))
  have := (N.push F emptyDict).push (F.push _) (instObj C hh.objs.size)
  rwa [Heap.size_push] at this
theorem call_clsLR {pos : List Value} {fI : Addr} (F : Fr h₀ L s.heap m) (X₀ : K.In h₀) (N : News h₀ L s.heap news) (hm : makesLIn K C = true) (hi : findIn K (.ref C) "__init__" = some (some (.ref fI))) (hf : isFn K (.ref fI) = true)
    (h : ∀ x dx h', Fr h₀ L h' m → News h₀ L h' ((x, accO' C dx) :: (dx, dictOf [] 0) :: news) → dx < x → (∀ b o, s.heap.get? b = some o → h'.get? b = some o) → s.heap.get? x = none → s.heap.get? dx = none →
      codeAny (model prog w) (A.under (.builtin "type.__call__" ⟨.ref C :: pos, []⟩)) (.call (.ref fI) ⟨.ref x :: pos, []⟩) (InitBack x fun r s' => match r with | .ok (.ret v) => Q v s' | .ok _ => False | .error e => E e s') { s with heap := h' }) :
    wpAny (model prog w) A (call (.ref C) pos []) Q E s := by
  have X := X₀.keeps F.keep
  refine wpAny_call ?_
  obtain ⟨hh, g, d, t, os⟩ := s
  refine makeL_core (makesL_of X hm) (looks_findIn X hi) (fun self => bind_fn X self (beq_iff_eq.mp hf)) (h _ hh.objs.size _ ((F.push _).push _) ?_ (Nat.lt_succ_self _) (fun b o e => Heap.get?_push_of_some _ (Heap.get?_push_of_some _ e)) (Heap.get?_none_of_le (Nat.le_succ _)) (Heap.get?_none_of_le (Nat.le_refl _)))
  have := (N.push F emptyDict).push (F.push _) (accO' C hh.objs.size)
  rwa [Heap.size_push] at this
theorem kb_made {E : List (Addr × Obj)} {h h1 g : Heap} (k : KB E h1 g) (hk : ∀ b o, h.get? b = some o → h1.get? b = some o) (hf : ∀ p ∈ E, h.get? p.1 = none) : KB [] h g := fun b o _ e => k b o (fun hb => by
  obtain ⟨p, hp, rfl⟩ := List.mem_map.mp hb
  have := hf p hp
  rw [e] at this
  cases this) (hk b o e)
theorem call_init_K {q dx : Addr} {n : Nat} {Q : Value → Shared → Prop} (F : Fr h₀ L s.heap m) (N : News h₀ L s.heap news) (hq : (q, boundB "method-wrapper" "list.__init__" x) ∈ news) (hx : (x, accO dx #[] n) ∈ news)
    (h : ∀ h', Fr h₀ L h' m → News h₀ L h' news → Q .none { s with heap := h' }) :
    wpAny (model prog w) A (call (.ref q) []) Q E s := by
  have z := N _ hx
  refine call_boundB (N _ hq).1 (.inr rfl) (fun A' Q' E' h' => bound_slot (by decide +kernel) (PySem.F.args_list_init_1 _) h') (by decide +kernel) PySem.F.entry_list_init fun A' => init_run z.1 rfl ?_
  have e : Obj.mapSeq (fun _ => #[]) (accO dx #[] n) = accO dx #[] n := by simp [Obj.mapSeq]
  have hs : Heap.SameBut x s.heap (s.heap.update x (Obj.mapSeq fun _ => #[])) := Heap.SameBut.update ..
  refine h _ (F.change hs z.2.1 z.2.2) fun p hp => ?_
  by_cases hpx : p.1 = x
  · have e1 := (N p hp).1
    rw [hpx, z.1] at e1
    refine ⟨?_, (N p hp).2⟩
    rw [hpx, Heap.get?_update_self _ z.1 (by rw [e]; rfl), e, e1]
  · exact ⟨hs.extBut _ _ hpx (N p hp).1, (N p hp).2⟩
end
end Mine
end
section
open PySem PySem.W PyProof.Rows PySem.Calls PySem.Spec
set_option maxRecDepth 100000
namespace Mine
local macro_rules | `(tactic| k_mem) => `(tactic| assumption)
local macro_rules | `(tactic| k_inst) => `(tactic| (refine' Mine.InstAt.ofAcc ?N ?h1 ?h2; (case N => k_asm); (case h1 => k_mem); (case h2 => k_mem)))
local macro_rules | `(tactic| k_ne) => `(tactic| (refine neN ?_; (try dsimp only); first | exact Mine.NeA.ne (by with_reducible assumption) | exact Mine.NeA.ne' (by with_reducible assumption) | omega))
local macro_rules | `(tactic| walk_at $s:str) => `(tactic| k_extra $s)
theorem words_C10 : True := by
  k_with_none
  w_top off
  k_with "myenter" => (first | ((refine' Mine.enterR (by k_asm) (by k_asm) (by k_asm) (by k_asm) (by k_asm) (by exact rfl) (by exact rfl) (by assumption) (by k_is) (by k_is) (by ktr_room) (by first | exact BindsTo.of_eq rfl | exact binds_K (by k_in) rfl (by k_is) rfl rfl rfl) (by exact locs rfl) ?_ (by exact rfl) (by exact rfl) (by exact rfl) (by decide); k_whole; intro g' L' h' hG' FG' F' N' B' X' T' l1; (try k_lt l1); (try dsimp only); (try k_lift B'); (try k_fold))) | fail "no")
  k_with "mylen" => (first | (first | omega | (simp only [PySem.Str.length_append, PySem.sizeLine_eq] at *; omega)) | fail "no")
  k_with "getMethod ref" => (first | ((k_here; k_dflt (first | refine' Mine.method_fnL (by k_in) (by k_inst) (by k_is) (by k_is) (by k_is) (by k_is) (by exact Mine.shadow_dict (by k_get)) ?_; k_whole | refine' Mine.method_biL (by k_in) (by k_inst) (by k_is) (by k_is) (by k_is) (by exact PySem.F.type_list_append) (by exact Mine.shadow_dict (by k_get)) ?_; k_whole))) | fail "no")
  k_with "call builtin:list.append" => (first | ((k_here; (with_reducible show wpAny _ _ (call (Value.builtin _) [Value.ref _, _]) _ _ _); k_dflt (refine' Mine.append_accL (by k_asm) (by k_asm) (by k_asm) (by k_upd) (by k_mem) (by k_is) ?_ (by walk_at "mylen"); k_whole); intro h' F' N'; (try k_sweep))) | fail "no")
  k_with "getAttr ref" => (first | ((k_here; k_dflt (refine' Mine.get_ownL' (by k_asm) (by k_asm) (by k_inst) (by k_is) (by k_is) (by k_is) (by k_is) (by k_is) (by k_is) (by k_get) (by k_handed) ?_; k_whole))) | fail "no")
  k_with "mytups" => (first | (first | assumption | exact Mine.TupsAt.keeps (by assumption) (fun b o e _ => Fr.keep (by k_asm) b o e)) | fail "no")
  k_with "eval GeneratorExp" => (first | ((k_here; k_dflt (first | ((with_reducible show wpAny _ _ (eval (Expr.GeneratorExp (Expr.BinOp _ _ _ _) _ _ _) _) _ _ _); refine' Mine.gen_len_K (by k_asm) (by k_asm) (by k_asm) (by k_asm) (by exact rfl) (by exact rfl) (by exact rfl) (by exact rfl) (by exact rfl) (by ktr_room) (by k_mem) (by k_mem) (by (intro ps'; k_upd)) (by assumption) (by walk_at "mytups") (by assumption) ?_) | ((with_reducible show wpAny _ _ (eval (Expr.GeneratorExp (Expr.Call _ _ _ _) _ _ _) _) _ _ _); refine' Mine.gen_join_K (by exact rfl) (by k_asm) (by k_asm) (by k_asm) (by k_asm) (by exact rfl) (by exact rfl) (by exact rfl) (by exact rfl) (by exact rfl) (by ktr_room) (by k_mem) (by k_mem) (by (intro ps'; k_upd)) (by assumption) (by walk_at "mytups") (by assumption) ?_)); intro a' ps' h' gs' tk' lo' F' N' hps' hAB' hlo' hlo2' G'; (try dsimp only at N'))) | fail "no")
  k_with "call builtin:sum" => (first | ((k_here; k_dflt (refine' Mine.sum_len_K (by k_asm) (by k_asm) (by refine Mine.Gen.toks (by assumption) ?_; first | exact Nat.le_succ _ | exact Nat.le_refl _) (by exact (Mine.TupsAt.size (by assumption)).symm) (by assumption) (by assumption) ?_); intro h' gs' tk' t' F' N' hAB' hK')) | fail "no")
  k_with "call builtin:str.join" => (first | ((k_here; (with_reducible show wpAny _ _ (call (Value.builtin _) [Value.str _ _, Value.ref _]) _ _ _); k_dflt (refine' Mine.join_str_K (by k_asm) (by k_asm) (by refine Mine.Gen.toks (by assumption) ?_; first | exact Nat.le_succ _ | exact Nat.le_refl _) (by exact (Mine.TupsAt.size (by assumption)).symm) (by assumption) (by assumption) (by assumption) (by assumption) ?_); intro h' gs' tk' t' F' N' hAB' hK')) | fail "no")
  k_with "ksenter" => (first | ((refine' Mine.ks_codeR (by k_asm) (by k_asm) (by k_asm) (by k_asm) (by k_asm) (by exact rfl) (by exact rfl) (by assumption) (by k_is) (by k_is) (by ktr_room) (by first | exact BindsTo.of_eq rfl | exact binds_K (by k_in) rfl (by k_is) rfl rfl rfl) (by exact locs rfl) ?_ (by decide) (by exact rfl) (by exact rfl) (by exact rfl); intro g' L' h' hG' FG' F' N' B' X' T' l1; (try k_lt l1); (try dsimp only); (try k_lift B'); (try k_fold))) | fail "no")
  k_with "getMethod ref" => (first | ((k_here; k_dflt (refine' Mine.meth_len_K (by k_asm) (by k_asm) (by k_asm) (by k_mem) (by k_inst) (by k_is) (by k_is) (by ks_is) (by decide) (by first | exact Mine.ty_len | exact Mine.ty_pop | exact Mine.ty_init) (by first | exact Or.inl ⟨rfl, rfl⟩ | exact Or.inr ⟨rfl, rfl⟩) (by first | exact Mine.nc_len | exact Mine.nc_pop | exact Mine.nc_init) (by decide +kernel) ?_; intro q' h' F' N' l1; (try k_lt l1)))) | fail "no")
  k_with "callWith ref" => (first | ((k_here; k_dflt (refine' Mine.callWith_B (by k_asm) (by k_mem) (by first | exact Or.inl rfl | exact Or.inr rfl) ?_))) | fail "no")
  k_with "call ref" => (first | ((k_here; k_dflt (first | (refine' Mine.call_len_K (by k_asm) (by k_mem) (by k_mem) ?_; intro t' tk') | (refine' Mine.call_pop_K (by k_asm) (by k_asm) (by k_asm) (by k_mem) (by k_upd) (by k_mem) (by exact rfl) (by rfl) (by k_is) (by k_is) (by walk_at "mylen") ?_; intro h' F' N')))) | fail "no")
  k_with "newsx" => (first | (first | (intro _; exact News.nil) | (intro nx; refine' Mine.News.one nx (by k_mem) (by walk_at "newsx"))) | fail "no")
  k_with "news" => (first | (first | assumption | (refine' Mine.News.one (by assumption) (by k_mem) (by walk_at "newsx")) | (refine News.perm (by assumption) ?_; simp; done) | (refine News.perm (by assumption) ?_; intro p hp; simp only [List.mem_cons, List.not_mem_nil, or_false] at hp ⊢; rcases hp with rfl | hp <;> simp_all)) | fail "no")
  k_with "kb" => (first | (exact Mine.KB.fin (by assumption) (by assumption)) | fail "no")
  k_with "splitne" => (first | ((repeat ((with_reducible rename Mine.NeA _ _ ∧ _ => kc'); (first | (refine Mine.sp16 kc' ?_; intro _ _ _ _ _ _ _ _ _ _ _ _ _ _ _ _ _) | (refine Mine.sp8 kc' ?_; intro _ _ _ _ _ _ _ _ _) | (refine Mine.sp4 kc' ?_; intro _ _ _ _ _) | (refine Mine.sp2 kc' ?_; intro _ _ _) | (refine Mine.sp1 kc' ?_; intro _ _)); clear kc'))) | fail "no")
  k_with "upds" => (first | (first | exact Mine.Upds.nil | (refine' Mine.Upds.cons (by k_upd) (by walk_at "upds"))) | fail "no")
  k_with "mylens" => (first | (assumption) | fail "no")
  k_with "call ref" => (first | ((k_here; k_dflt ((first | with_reducible show wpAny _ _ (call (Value.ref 217) _) _ _ _ | with_reducible show wpAny _ _ (call (Value.ref (nat_lit 217)) _) _ _ _); refine' Mine.part_count_K _ _ _ _ _ _ _ _ _ _ _ _ _ _ _ _ _ _ _ _ _ _ _ _ _ _ _ (by k_asm) (by k_asm) (by k_asm) (by k_asm) (by first | assumption | exact rfl) (by (dsimp only [ktrTop, Around.deeper]; omega)) (by (dsimp only [ktrTop, Around.deeper]; omega)) (by k_asm) (by k_mem) (by k_mem) ?_); intro h' tk' t' F' N')) | fail "no")
  k_with "call ref" => (first | ((k_here; k_dflt ((first | with_reducible show wpAny _ _ (call (Value.ref 187) _) _ _ _ | with_reducible show wpAny _ _ (call (Value.ref (nat_lit 187)) _) _ _ _); refine' Mine.len_K _ _ _ _ _ _ _ _ _ _ _ _ _ _ _ _ _ _ _ _ _ _ _ _ _ _ _ _ _ _ (by k_asm) (by k_asm) (by k_asm) (by k_asm) (by first | assumption | exact rfl) (by (dsimp only [ktrTop, Around.deeper]; omega)) (by (dsimp only [ktrTop, Around.deeper]; omega)) (by k_asm) (by k_mem) (by k_mem) (by (intro ps'; walk_at "upds")) (by assumption) (by walk_at "mytups") (by walk_at "mylens") (by walk_at "mylen") ?_); intro ps' h' gs' tk' t' F' N' hps' hAB' hlb'; (try dsimp only at N'); (try (refine Mine.len_back (by assumption) ?_)))) | fail "no")
  k_with "call ref" => (first | ((k_here; k_dflt ((first | with_reducible show wpAny _ _ (call (Value.ref 194) _) _ _ _ | with_reducible show wpAny _ _ (call (Value.ref (nat_lit 194)) _) _ _ _); refine' Mine.str_K _ _ _ _ _ _ _ _ _ _ _ _ _ _ _ _ _ _ _ _ _ _ _ _ _ _ _ _ _ _ (by k_asm) (by k_asm) (by k_asm) (by k_asm) (by first | assumption | exact rfl) (by (dsimp only [ktrTop, Around.deeper]; omega)) (by (dsimp only [ktrTop, Around.deeper]; omega)) (by k_asm) (by k_mem) (by k_mem) (by (intro ps'; walk_at "upds")) (by assumption) (by walk_at "mytups") (by walk_at "mylens") (by walk_at "mylen") ?_); intro ps' h' gs' tk' t' F' N' hps' hAB' hTk'; (try dsimp only at N'); (try dsimp only [W.StrBack]))) | fail "no")
  k_with "call ref" => (first | ((k_here; k_dflt ((first | with_reducible show wpAny _ _ (call (Value.ref 164) _) _ _ _ | with_reducible show wpAny _ _ (call (Value.ref (nat_lit 164)) _) _ _ _); refine' Mine.push_K _ _ _ _ _ _ _ _ _ _ _ _ _ _ _ _ _ _ _ _ _ _ _ _ _ _ _ _ _ _ _ _ (by k_asm) (by k_asm) (by k_asm) (by k_asm) (by first | assumption | exact rfl) (by (dsimp only [ktrTop, Around.deeper]; omega)) (by (dsimp only [ktrTop, Around.deeper]; omega)) (by k_asm) (by k_mem) (by (intro tp'; walk_at "upds")) (by walk_at "mylen") ?_); intro tp' h' tk' F' N' hne'; (try dsimp only at N'); (replace hne' := Mine.allNe_of hne'; dsimp only [Mine.AllNe] at hne'; walk_at "splitne"))) | fail "no")
  k_with "subscriptTail Name Slice ref ref" => (first | ((k_here; (with_reducible show wpAny _ _ (subscriptTail _ (PySem.Expr.Slice _ _ none _) (Value.ref _) (Value.ref _)) _ _ _); k_dflt (refine' Mine.slice_K (by k_asm) (by k_asm) (by k_asm) (by k_mem) (by k_mem) (by k_is) (by k_is) (by k_is) (by kmk_part) (by kmk_part) (by walk_at "mylen") (by first | exact Mine.pick_from (by assumption) | exact rfl) ?_ (by with_unfolding_all rfl) (by kmk_pure)); intro D' h' F' N' l1; (try k_lt l1))) | fail "no")
  k_with "setItem ref ref" => (first | ((k_here; k_dflt (refine' Mine.setitem_K (by k_asm) (by k_asm) (by k_asm) (by kmk_list) (by (intro n'; k_upd)) (by k_mem) (by k_is) (by k_is) (by k_is) (by kmk_part) (by kmk_part) (by walk_at "mylen") (by first | walk_at "mylen" | (simp; done)) (by first | exact Mine.set_from (by assumption) | exact Mine.set_all | exact rfl) ?_); intro n' h' F' N'; (try dsimp only at N'))) | fail "no")
  k_with "setAttr ref" => (first | ((k_here; k_dflt (refine' Mine.set_dictL (by k_asm) (by k_asm) (by k_asm) (by k_inst) (by exact rfl) (by k_is) (by exact Mine.mro220 _) (by k_is) (by k_is) (by k_get) (by k_put) (by k_upd) (by exact Nat.le_of_ble_eq_true rfl) ?_; k_whole; intro h' F' N'; (try k_sweep)))) | fail "no")
  k_with "wpAt" => (first | (((with_reducible show _root_.PySem.wpAt _ _ _ (execs (_ :: _) _) _ _ _); refine ks_wpAt_execs_cons ?_)) | fail "no")
  k_with "wpAt" => (first | ((ks_step "eval Call"; k_dflt (refine ks_wpAt_MethodCall ?_))) | fail "no")
  k_with "truthy ref" => (first | ((k_here; k_dflt (refine' Mine.truthy_lenL (by k_in) (by k_inst) (by k_is) (by k_is) (by k_is) ?_; k_whole))) | fail "no")
  k_with "Exists" => (first | ((refine ⟨_, _, rfl, ?_⟩)) | fail "no")
  k_with "units" => (first | (first | k_units | (dsimp only [ktrTop, Around.deeper, Around.in1]; omega) | (simp only [ktrTop, Around.deeper, Around.in1, Around.under]; omega)) | fail "no")
  k_with "call type:str" => (first | ((k_here; (with_reducible show wpAny _ _ (call (Value.type "str") [Value.ref _]) _ _ _); k_dflt (refine' kso_call (by walk_at "units") (by k_in) (by k_inst) (by k_is) (by k_is) ?_; k_whole))) | fail "no")
  k_with "call ref" => (first | ((k_here; k_dflt (refine' Mine.call_init_K (by k_asm) (by k_asm) (by k_mem) (by k_mem) ?_; intro h' F' N'))) | fail "no")
  k_with "wpAt" => (first | ((ks_step "exec Expr"; k_dflt (refine ks_wpAt_Expr_any ?_))) | fail "no")
  trivial
set_option maxHeartbeats 4000000 in
theorem accnew_ok (w : World) {p : Program} {loose : List PySem.Str} {mean : ExcName → Option Value} {mg mb : PySem.Str → Option Value} (dp un : Nat) (gd : Option (List Code)) (cn : PySem.Str) (cs : Scope) (a : Addr) (ccd : Value) (cl : List (PySem.Str × Addr)) (outer : List Env) (A₀ : Around) (base h₀ : Heap) (L : Addr) (m : PySem.Str → Option Value) (s : Shared) (Q E : Value → Shared → Prop) (ta : Tok)
    (B : Below A₀ base outer h₀) (F : Fr h₀ L s.heap m) (X : (Mine.hd.heap_1 w.params).In h₀) (T : Top p loose mean mg mb h₀) (hk : cs.kind = .function) (hd : dp + 6 < recursionLimit) (hu : un + 60 < cLine)
    (hret : ∀ x dx e1 k1 n t' h' tk', Fr h₀ L h' m → News h₀ L h' [(x, accO dx #[] n), (dx, dictOf [⟨e1, .str (Str.ofString "_initial_size") k1, .int 0 t'⟩] 1)] → KB [] s.heap h' → s.heap.get? x = none → s.heap.get? dx = none → Q (.ref x) { s with heap := h', toks := tk' })
    : wpAny (model PySem.Challenge.rw_wn0105_01.row.prog w) (ktrTop dp un gd cn cs L a ccd cl outer) (call (.ref 220) [.int 0 ta]) Q E s := by
  revert X; k_fill; intro X
  refine call_clsLR F X (News.nil (h₀ := h₀) (L := L)) (makesL220 _) (by k_dflt k_is) (by k_dflt k_is) ?_
  intro x dx h1 F1 N1 l2 hk hfx hfd
  k_lt2 l2
  k_dflt walk_at "ksenter"
  have hG0 : KB [] s.heap _ := kb_made (by assumption) hk (by intro p hp; simp only [List.mem_cons, List.not_mem_nil, or_false] at hp; rcases hp with rfl | rfl; exact hfx; exact hfd)
  (rename Fr _ _ _ _ => kF')
  replace kF' : Fr _ _ _ (fun y => List.lookup y [(Str.ofString "initial_size", Value.int 0 ta), (Str.ofString "self", Value.ref x)]) := kF'
  k_steps
  exact hret _ _ _ _ 0 _ _ _ (by k_asm) (by walk_at "news") (by walk_at "kb") hfx hfd
end Mine
end
section
open PySem PySem.W PyProof.Rows PySem.Calls PySem.Spec
set_option maxRecDepth 100000
namespace Mine
theorem units_under (A : Around) (C : Addr) (vals : List Value) (kw : List (PySem.Str × Value)) : (A.under (.builtin "type.__call__" ⟨.ref C :: vals, kw⟩)).units = A.units + 1 := rfl
theorem accnew_K (w : World) {p : Program} {loose : List PySem.Str} {mean : ExcName → Option Value} {mg mb : PySem.Str → Option Value} (dp un : Nat) (gd : Option (List Code)) (cn : PySem.Str) (cs : Scope) (a : Addr) (ccd : Value) (cl : List (PySem.Str × Addr)) (outer : List Env) (A₀ : Around) (base h₀ : Heap) (L : Addr) (m : PySem.Str → Option Value) (s : Shared) (Q E : Value → Shared → Prop) (ta : Tok) (news : List (Addr × Obj))
    (B : Below A₀ base outer h₀) (F : Fr h₀ L s.heap m) (X : (Mine.hd.heap_1 w.params).In h₀) (T : Top p loose mean mg mb h₀) (hk : cs.kind = .function) (hd : dp + 6 < recursionLimit) (hu : un + 60 < cLine)
    (N : News h₀ L s.heap news)
    (h : ∀ x dx e1 k1 n t' h' tk', Fr h₀ L h' m → News h₀ L h' ((x, accO dx #[] n) :: (dx, dictOf [⟨e1, .str (Str.ofString "_initial_size") k1, .int 0 t'⟩] 1) :: news) → (∀ p ∈ news, p.1 ≠ x) → (∀ p ∈ news, p.1 ≠ dx) → NeA x dx → Q (.ref x) { s with heap := h', toks := tk' })
    : wpAny (model PySem.Challenge.rw_wn0105_01.row.prog w) (ktrTop dp un gd cn cs L a ccd cl outer) (call (.ref 220) [.int 0 ta]) Q E s := by
  refine accnew_ok w dp un gd cn cs a ccd cl outer A₀ base h₀ L m s Q E ta B F X T hk hd hu fun x dx e1 k1 n t' h' tk' F' N' kb hfx hfd => h x dx e1 k1 n t' h' tk' F' (fun p hp => ?_) (ne_fresh N hfx) (ne_fresh N hfd) (ne_obj N' (.head _) (.tail _ (.head _)) nofun)
  rcases List.mem_cons.mp hp with rfl | hp
  · exact N' _ (.head _)
  · rcases List.mem_cons.mp hp with rfl | hp
    · exact N' _ (.tail _ (.head _))
    · exact ⟨kb _ _ (by simp) (N p hp).1, (N p hp).2⟩
end Mine
end
section
open PySem PySem.W PyProof.Rows PySem.Calls PySem.Spec
set_option maxRecDepth 100000
namespace Mine
local macro_rules | `(tactic| k_mem) => `(tactic| assumption)
local macro_rules | `(tactic| k_inst) => `(tactic| (refine' Mine.InstAt.ofAcc ?N ?h1 ?h2; (case N => k_asm); (case h1 => k_mem); (case h2 => k_mem)))
local macro_rules | `(tactic| k_ne) => `(tactic| (refine neN ?_; (try dsimp only); first | exact Mine.NeA.ne (by with_reducible assumption) | exact Mine.NeA.ne' (by with_reducible assumption) | omega))
local macro_rules | `(tactic| walk_at $s:str) => `(tactic| k_extra $s)
theorem words_C11 : True := by
  k_with_none
  w_top off
  k_with "myenter" => (first | ((refine' Mine.enterR (by k_asm) (by k_asm) (by k_asm) (by k_asm) (by k_asm) (by exact rfl) (by exact rfl) (by assumption) (by k_is) (by k_is) (by ktr_room) (by first | exact BindsTo.of_eq rfl | exact binds_K (by k_in) rfl (by k_is) rfl rfl rfl) (by exact locs rfl) ?_ (by exact rfl) (by exact rfl) (by exact rfl) (by decide); k_whole; intro g' L' h' hG' FG' F' N' B' X' T' l1; (try k_lt l1); (try dsimp only); (try k_lift B'); (try k_fold))) | fail "no")
  k_with "mylen" => (first | (first | omega | (simp only [PySem.Str.length_append, PySem.sizeLine_eq] at *; omega)) | fail "no")
  k_with "getMethod ref" => (first | ((k_here; k_dflt (first | refine' Mine.method_fnL (by k_in) (by k_inst) (by k_is) (by k_is) (by k_is) (by k_is) (by exact Mine.shadow_dict (by k_get)) ?_; k_whole | refine' Mine.method_biL (by k_in) (by k_inst) (by k_is) (by k_is) (by k_is) (by exact PySem.F.type_list_append) (by exact Mine.shadow_dict (by k_get)) ?_; k_whole))) | fail "no")
  k_with "call builtin:list.append" => (first | ((k_here; (with_reducible show wpAny _ _ (call (Value.builtin _) [Value.ref _, _]) _ _ _); k_dflt (refine' Mine.append_accL (by k_asm) (by k_asm) (by k_asm) (by k_upd) (by k_mem) (by k_is) ?_ (by walk_at "mylen"); k_whole); intro h' F' N'; (try k_sweep))) | fail "no")
  k_with "getAttr ref" => (first | ((k_here; k_dflt (refine' Mine.get_ownL' (by k_asm) (by k_asm) (by k_inst) (by k_is) (by k_is) (by k_is) (by k_is) (by k_is) (by k_is) (by k_get) (by k_handed) ?_; k_whole))) | fail "no")
  k_with "mytups" => (first | (first | assumption | exact Mine.TupsAt.keeps (by assumption) (fun b o e _ => Fr.keep (by k_asm) b o e)) | fail "no")
  k_with "eval GeneratorExp" => (first | ((k_here; k_dflt (first | ((with_reducible show wpAny _ _ (eval (Expr.GeneratorExp (Expr.BinOp _ _ _ _) _ _ _) _) _ _ _); refine' Mine.gen_len_K (by k_asm) (by k_asm) (by k_asm) (by k_asm) (by exact rfl) (by exact rfl) (by exact rfl) (by exact rfl) (by exact rfl) (by ktr_room) (by k_mem) (by k_mem) (by (intro ps'; k_upd)) (by assumption) (by walk_at "mytups") (by assumption) ?_) | ((with_reducible show wpAny _ _ (eval (Expr.GeneratorExp (Expr.Call _ _ _ _) _ _ _) _) _ _ _); refine' Mine.gen_join_K (by exact rfl) (by k_asm) (by k_asm) (by k_asm) (by k_asm) (by exact rfl) (by exact rfl) (by exact rfl) (by exact rfl) (by exact rfl) (by ktr_room) (by k_mem) (by k_mem) (by (intro ps'; k_upd)) (by assumption) (by walk_at "mytups") (by assumption) ?_)); intro a' ps' h' gs' tk' lo' F' N' hps' hAB' hlo' hlo2' G'; (try dsimp only at N'))) | fail "no")
  k_with "call builtin:sum" => (first | ((k_here; k_dflt (refine' Mine.sum_len_K (by k_asm) (by k_asm) (by refine Mine.Gen.toks (by assumption) ?_; first | exact Nat.le_succ _ | exact Nat.le_refl _) (by exact (Mine.TupsAt.size (by assumption)).symm) (by assumption) (by assumption) ?_); intro h' gs' tk' t' F' N' hAB' hK')) | fail "no")
  k_with "call builtin:str.join" => (first | ((k_here; (with_reducible show wpAny _ _ (call (Value.builtin _) [Value.str _ _, Value.ref _]) _ _ _); k_dflt (refine' Mine.join_str_K (by k_asm) (by k_asm) (by refine Mine.Gen.toks (by assumption) ?_; first | exact Nat.le_succ _ | exact Nat.le_refl _) (by exact (Mine.TupsAt.size (by assumption)).symm) (by assumption) (by assumption) (by assumption) (by assumption) ?_); intro h' gs' tk' t' F' N' hAB' hK')) | fail "no")
  k_with "ksenter" => (first | ((refine' Mine.ks_codeR (by k_asm) (by k_asm) (by k_asm) (by k_asm) (by k_asm) (by exact rfl) (by exact rfl) (by assumption) (by k_is) (by k_is) (by ktr_room) (by first | exact BindsTo.of_eq rfl | exact binds_K (by k_in) rfl (by k_is) rfl rfl rfl) (by exact locs rfl) ?_ (by decide) (by exact rfl) (by exact rfl) (by exact rfl); intro g' L' h' hG' FG' F' N' B' X' T' l1; (try k_lt l1); (try dsimp only); (try k_lift B'); (try k_fold))) | fail "no")
  k_with "getMethod ref" => (first | ((k_here; k_dflt (refine' Mine.meth_len_K (by k_asm) (by k_asm) (by k_asm) (by k_mem) (by k_inst) (by k_is) (by k_is) (by ks_is) (by decide) (by first | exact Mine.ty_len | exact Mine.ty_pop | exact Mine.ty_init) (by first | exact Or.inl ⟨rfl, rfl⟩ | exact Or.inr ⟨rfl, rfl⟩) (by first | exact Mine.nc_len | exact Mine.nc_pop | exact Mine.nc_init) (by decide +kernel) ?_; intro q' h' F' N' l1; (try k_lt l1)))) | fail "no")
  k_with "callWith ref" => (first | ((k_here; k_dflt (refine' Mine.callWith_B (by k_asm) (by k_mem) (by first | exact Or.inl rfl | exact Or.inr rfl) ?_))) | fail "no")
  k_with "call ref" => (first | ((k_here; k_dflt (first | (refine' Mine.call_len_K (by k_asm) (by k_mem) (by k_mem) ?_; intro t' tk') | (refine' Mine.call_pop_K (by k_asm) (by k_asm) (by k_asm) (by k_mem) (by k_upd) (by k_mem) (by exact rfl) (by rfl) (by k_is) (by k_is) (by walk_at "mylen") ?_; intro h' F' N')))) | fail "no")
  k_with "newsx" => (first | (first | (intro _; exact News.nil) | (intro nx; refine' Mine.News.one nx (by k_mem) (by walk_at "newsx"))) | fail "no")
  k_with "news" => (first | (first | assumption | (refine' Mine.News.one (by assumption) (by k_mem) (by walk_at "newsx")) | (refine News.perm (by assumption) ?_; simp; done) | (refine News.perm (by assumption) ?_; intro p hp; simp only [List.mem_cons, List.not_mem_nil, or_false] at hp ⊢; rcases hp with rfl | hp <;> simp_all)) | fail "no")
  k_with "kb" => (first | (exact Mine.KB.fin (by assumption) (by assumption)) | fail "no")
  k_with "splitne" => (first | ((repeat ((with_reducible rename Mine.NeA _ _ ∧ _ => kc'); (first | (refine Mine.sp16 kc' ?_; intro _ _ _ _ _ _ _ _ _ _ _ _ _ _ _ _ _) | (refine Mine.sp8 kc' ?_; intro _ _ _ _ _ _ _ _ _) | (refine Mine.sp4 kc' ?_; intro _ _ _ _ _) | (refine Mine.sp2 kc' ?_; intro _ _ _) | (refine Mine.sp1 kc' ?_; intro _ _)); clear kc'))) | fail "no")
  k_with "upds" => (first | (first | exact Mine.Upds.nil | (refine' Mine.Upds.cons (by k_upd) (by walk_at "upds"))) | fail "no")
  k_with "mylens" => (first | (assumption) | fail "no")
  k_with "call ref" => (first | ((k_here; k_dflt ((first | with_reducible show wpAny _ _ (call (Value.ref 217) _) _ _ _ | with_reducible show wpAny _ _ (call (Value.ref (nat_lit 217)) _) _ _ _); refine' Mine.part_count_K _ _ _ _ _ _ _ _ _ _ _ _ _ _ _ _ _ _ _ _ _ _ _ _ _ _ _ (by k_asm) (by k_asm) (by k_asm) (by k_asm) (by first | assumption | exact rfl) (by (dsimp only [ktrTop, Around.deeper]; omega)) (by (dsimp only [ktrTop, Around.deeper]; omega)) (by k_asm) (by k_mem) (by k_mem) ?_); intro h' tk' t' F' N')) | fail "no")
  k_with "call ref" => (first | ((k_here; k_dflt ((first | with_reducible show wpAny _ _ (call (Value.ref 187) _) _ _ _ | with_reducible show wpAny _ _ (call (Value.ref (nat_lit 187)) _) _ _ _); refine' Mine.len_K _ _ _ _ _ _ _ _ _ _ _ _ _ _ _ _ _ _ _ _ _ _ _ _ _ _ _ _ _ _ (by k_asm) (by k_asm) (by k_asm) (by k_asm) (by first | assumption | exact rfl) (by (dsimp only [ktrTop, Around.deeper]; omega)) (by (dsimp only [ktrTop, Around.deeper]; omega)) (by k_asm) (by k_mem) (by k_mem) (by (intro ps'; walk_at "upds")) (by assumption) (by walk_at "mytups") (by walk_at "mylens") (by walk_at "mylen") ?_); intro ps' h' gs' tk' t' F' N' hps' hAB' hlb'; (try dsimp only at N'); (try (refine Mine.len_back (by assumption) ?_)))) | fail "no")
  k_with "call ref" => (first | ((k_here; k_dflt ((first | with_reducible show wpAny _ _ (call (Value.ref 194) _) _ _ _ | with_reducible show wpAny _ _ (call (Value.ref (nat_lit 194)) _) _ _ _); refine' Mine.str_K _ _ _ _ _ _ _ _ _ _ _ _ _ _ _ _ _ _ _ _ _ _ _ _ _ _ _ _ _ _ (by k_asm) (by k_asm) (by k_asm) (by k_asm) (by first | assumption | exact rfl) (by (dsimp only [ktrTop, Around.deeper]; omega)) (by (dsimp only [ktrTop, Around.deeper]; omega)) (by k_asm) (by k_mem) (by k_mem) (by (intro ps'; walk_at "upds")) (by assumption) (by walk_at "mytups") (by walk_at "mylens") (by walk_at "mylen") ?_); intro ps' h' gs' tk' t' F' N' hps' hAB' hTk'; (try dsimp only at N'); (try dsimp only [W.StrBack]))) | fail "no")
  k_with "call ref" => (first | ((k_here; k_dflt ((first | with_reducible show wpAny _ _ (call (Value.ref 164) _) _ _ _ | with_reducible show wpAny _ _ (call (Value.ref (nat_lit 164)) _) _ _ _); refine' Mine.push_K _ _ _ _ _ _ _ _ _ _ _ _ _ _ _ _ _ _ _ _ _ _ _ _ _ _ _ _ _ _ _ _ (by k_asm) (by k_asm) (by k_asm) (by k_asm) (by first | assumption | exact rfl) (by (dsimp only [ktrTop, Around.deeper]; omega)) (by (dsimp only [ktrTop, Around.deeper]; omega)) (by k_asm) (by k_mem) (by (intro tp'; walk_at "upds")) (by walk_at "mylen") ?_); intro tp' h' tk' F' N' hne'; (try dsimp only at N'); (replace hne' := Mine.allNe_of hne'; dsimp only [Mine.AllNe] at hne'; walk_at "splitne"))) | fail "no")
  k_with "subscriptTail Name Slice ref ref" => (first | ((k_here; (with_reducible show wpAny _ _ (subscriptTail _ (PySem.Expr.Slice _ _ none _) (Value.ref _) (Value.ref _)) _ _ _); k_dflt (refine' Mine.slice_K (by k_asm) (by k_asm) (by k_asm) (by k_mem) (by k_mem) (by k_is) (by k_is) (by k_is) (by kmk_part) (by kmk_part) (by walk_at "mylen") (by first | exact Mine.pick_from (by assumption) | exact rfl) ?_ (by with_unfolding_all rfl) (by kmk_pure)); intro D' h' F' N' l1; (try k_lt l1))) | fail "no")
  k_with "setItem ref ref" => (first | ((k_here; k_dflt (refine' Mine.setitem_K (by k_asm) (by k_asm) (by k_asm) (by kmk_list) (by (intro n'; k_upd)) (by k_mem) (by k_is) (by k_is) (by k_is) (by kmk_part) (by kmk_part) (by walk_at "mylen") (by first | walk_at "mylen" | (simp; done)) (by first | exact Mine.set_from (by assumption) | exact Mine.set_all | exact rfl) ?_); intro n' h' F' N'; (try dsimp only at N'))) | fail "no")
  k_with "setAttr ref" => (first | ((k_here; k_dflt (refine' Mine.set_dictL (by k_asm) (by k_asm) (by k_asm) (by k_inst) (by exact rfl) (by k_is) (by exact Mine.mro220 _) (by k_is) (by k_is) (by k_get) (by k_put) (by k_upd) (by exact Nat.le_of_ble_eq_true rfl) ?_; k_whole; intro h' F' N'; (try k_sweep)))) | fail "no")
  k_with "wpAt" => (first | (((with_reducible show _root_.PySem.wpAt _ _ _ (execs (_ :: _) _) _ _ _); refine ks_wpAt_execs_cons ?_)) | fail "no")
  k_with "wpAt" => (first | ((ks_step "eval Call"; k_dflt (refine ks_wpAt_MethodCall ?_))) | fail "no")
  k_with "truthy ref" => (first | ((k_here; k_dflt (refine' Mine.truthy_lenL (by k_in) (by k_inst) (by k_is) (by k_is) (by k_is) ?_; k_whole))) | fail "no")
  k_with "Exists" => (first | ((refine ⟨_, _, rfl, ?_⟩)) | fail "no")
  k_with "units" => (first | (first | k_units | (dsimp only [ktrTop, Around.deeper, Around.in1]; omega) | (simp only [ktrTop, Around.deeper, Around.in1, Around.under]; omega)) | fail "no")
  k_with "call type:str" => (first | ((k_here; (with_reducible show wpAny _ _ (call (Value.type "str") [Value.ref _]) _ _ _); k_dflt (refine' kso_call (by walk_at "units") (by k_in) (by k_inst) (by k_is) (by k_is) ?_; k_whole))) | fail "no")
  k_with "call ref" => (first | ((k_here; k_dflt ((first | with_reducible show wpAny _ _ (call (Value.ref 220) _) _ _ _ | with_reducible show wpAny _ _ (call (Value.ref (nat_lit 220)) _) _ _ _); refine' Mine.accnew_K _ _ _ _ _ _ _ _ _ _ _ _ _ _ _ _ _ _ _ _ (by k_asm) (by k_asm) (by k_asm) (by k_asm) (by first | assumption | exact rfl) (by ktr_room) (by walk_at "myunits") (by k_asm) ?_); intro x' dx' e1' k1' n' t' h' tk' F' N' hne' hne2' hne3'; (try dsimp only at N'); (replace hne' := Mine.allNe_of hne'; dsimp only [Mine.AllNe] at hne'; walk_at "splitne"); (replace hne2' := Mine.allNe_of hne2'; dsimp only [Mine.AllNe] at hne2'; walk_at "splitne"))) | fail "no")
  k_with "myunits" => (first | (first | (dsimp only [ktrTop, Around.deeper]; omega) | ((try simp only [Mine.units_under, Around.deeper_units, Around.in1_units]); (try dsimp only [ktrTop]); omega) | (simp only [ktrTop, Around.deeper, Around.in1, Around.under]; omega)) | fail "no")
  trivial
set_option maxHeartbeats 4000000 in
theorem mknew_ok (w : World) {p : Program} {loose : List PySem.Str} {mean : ExcName → Option Value} {mg mb : PySem.Str → Option Value} (dp un : Nat) (gd : Option (List Code)) (cn : PySem.Str) (cs : Scope) (a : Addr) (ccd : Value) (cl : List (PySem.Str × Addr)) (outer : List Env) (A₀ : Around) (base h₀ : Heap) (L : Addr) (m : PySem.Str → Option Value) (s : Shared) (Q E : Value → Shared → Prop) (mxl : Int) (th tW m3 m7 : Tok)
    (B : Below A₀ base outer h₀) (F : Fr h₀ L s.heap m) (X : (Mine.hd.heap_1 w.params).In h₀) (T : Top p loose mean mg mb h₀) (hk : cs.kind = .function) (hd : dp + 10 < recursionLimit) (hu : un + 200 < cLine)
    (hret : ∀ mk dmk ln x dx g1 g2 g3 g4 g5 g6 e1 m1 m2 m4 m5 m6 m8 m9 k1 t0 cn' n h' tk', Fr h₀ L h' m → News h₀ L h' [(mk, instObj 136 dmk), (dmk, dictOf [⟨g1, .str (Str.ofString "_maxlen") m1, .int mxl tW⟩, ⟨g2, .str (Str.ofString "_continuation_ws") m2, .str (Str.ofString " ") m3⟩, ⟨g3, .str (Str.ofString "_continuation_ws_len") m4, .int 1 m5⟩, ⟨g4, .str (Str.ofString "_splitchars") m6, .str (Str.ofString " ") m7⟩, ⟨g5, .str (Str.ofString "_lines") m8, .ref ln⟩, ⟨g6, .str (Str.ofString "_current_line") m9, .ref x⟩] 6), (ln, W.listOf #[] cn'), (x, accO dx #[] n), (dx, dictOf [⟨e1, .str (Str.ofString "_initial_size") k1, .int 0 t0⟩] 1)] → KB [] s.heap h' → s.heap.get? mk = none → s.heap.get? dmk = none → s.heap.get? ln = none → s.heap.get? x = none → s.heap.get? dx = none → Q (.ref mk) { s with heap := h', toks := tk' })
    : wpAny (model PySem.Challenge.rw_wn0105_01.row.prog w) (ktrTop dp un gd cn cs L a ccd cl outer) (call (.ref 136) [.int 0 th, .int mxl tW, .str (Str.ofString " ") m3, .str (Str.ofString " ") m7]) Q E s := by
  revert X; k_fill; intro X
  refine call_clsR F X (News.nil (h₀ := h₀) (L := L)) (by k_dflt k_is) (by k_dflt k_is) (by k_dflt k_is) ?_
  intro mk dmk h1 F1 N1 l2 hk hfx hfd
  k_lt2 l2
  k_dflt walk_at "myenter"
  have hG0 : KB [] s.heap _ := kb_made (by assumption) hk (by intro p hp; simp only [List.mem_cons, List.not_mem_nil, or_false] at hp; rcases hp with rfl | rfl; exact hfx; exact hfd)
  (rename Fr _ _ _ _ => kF')
  replace kF' : Fr _ _ _ (fun y => List.lookup y [(Str.ofString "splitchars", Value.str (Str.ofString " ") m7), (Str.ofString "continuation_ws", Value.str (Str.ofString " ") m3), (Str.ofString "maxlen", Value.int mxl tW), (Str.ofString "headerlen", Value.int 0 th), (Str.ofString "self", Value.ref mk)]) := kF'
  k_steps
  exact hret _ _ _ _ _ _ _ _ _ _ _ _ _ _ _ _ _ _ _ _ _ _ _ _ _ (by k_asm) (by walk_at "news") (by walk_at "kb") hfx hfd (Mine.fresh_in (by assumption) (by assumption) (by k_mem) (by k_all)) (Mine.fresh_in (by assumption) (by assumption) (by k_mem) (by k_all)) (Mine.fresh_in (by assumption) (by assumption) (by k_mem) (by k_all))
end Mine
end
section
open PySem PySem.W PyProof.Rows PySem.Calls PySem.Spec PySem.Builtin PySem.Builtin.Str
namespace Mine
namespace PS
def glue (c : Nat) : List (List Nat) → List Nat
  | [] => []
  | [p] => p
  | p :: q :: r => p ++ c :: glue c (q :: r)
theorem cut {c : Nat} : ∀ {p q a b : List Nat}, c ∉ p → c ∉ q → p ++ c :: a = q ++ c :: b → p = q ∧ a = b
  | [], [], a, b, _, _, e => by simpa using e
  | [], y :: q, a, b, _, hq, e => by
    simp only [List.nil_append, List.cons_append, List.cons.injEq] at e
    exact absurd (e.1 ▸ List.mem_cons_self) hq
  | x :: p, [], a, b, hp, _, e => by
    simp only [List.nil_append, List.cons_append, List.cons.injEq] at e
    exact absurd (e.1 ▸ List.mem_cons_self) hp
  | x :: p, y :: q, a, b, hp, hq, e => by
    simp only [List.cons_append, List.cons.injEq] at e
    obtain ⟨e1, e2⟩ := cut (fun h => hp (.tail _ h)) (fun h => hq (.tail _ h)) e.2
    exact ⟨by rw [e.1, e1], e2⟩
theorem glue_inj {c : Nat} : ∀ {l l' : List (List Nat)}, l ≠ [] → l' ≠ [] → (∀ p ∈ l, c ∉ p) → (∀ p ∈ l', c ∉ p) → glue c l = glue c l' → l = l'
  | [], _, h, _, _, _, _ => absurd rfl h
  | _ :: _, [], _, h, _, _, _ => absurd rfl h
  | [p], [q], _, _, _, _, e => by simpa [glue] using e
  | [p], q :: q2 :: r, _, _, h1, _, e => by
    exfalso
    refine h1 p (.head _) ?_
    have e' : p = q ++ c :: glue c (q2 :: r) := e
    rw [e']; simp
  | p :: p2 :: r, [q], _, _, _, h2, e => by
    exfalso
    refine h2 q (.head _) ?_
    have e' : p ++ c :: glue c (p2 :: r) = q := e
    rw [← e']; simp
  | p :: p2 :: r, q :: q2 :: r', _, _, h1, h2, e => by
    have e' : p ++ c :: glue c (p2 :: r) = q ++ c :: glue c (q2 :: r') := e
    obtain ⟨e1, e2⟩ := cut (h1 p (.head _)) (h2 q (.head _)) e'
    rw [e1, glue_inj (by simp) (by simp) (fun x hx => h1 x (.tail _ hx)) (fun x hx => h2 x (.tail _ hx)) e2]
theorem join_glue (c : Nat) : ∀ l : List PySem.Str, (Str.join ⟨#[c]⟩ l).cps.toList = glue c (l.map fun x => x.cps.toList)
  | [] => rfl
  | [x] => rfl
  | x :: y :: r => by
    show ((x ++ ⟨#[c]⟩ ++ Str.join ⟨#[c]⟩ (y :: r) : PySem.Str)).cps.toList = _
    rw [PySem.Str.cps_append, PySem.Str.cps_append, Array.toList_append, Array.toList_append, join_glue c (y :: r)]
    simp [glue]
theorem split_ne (x y : PySem.Str) : Txt.split x y ≠ [] := by
  unfold Txt.split
  split
  · simp
  · split
    · simp
    · rename_i h
      cases q : occurrences x y 0 x.length (x.length + 1) with
      | nil => rw [q] at h; simp at h
      | cons i r => rw [StrLaws.partsBetween_eq]; simp [StrLaws.partsFrom]
theorem str_ext {x y : PySem.Str} (h : x.cps.toList = y.cps.toList) : x = y := PySem.Str.ext' (Array.toList_inj.mp h)
theorem map_inj {l l' : List PySem.Str} (h : (l.map fun x => x.cps.toList) = l'.map fun x => x.cps.toList) : l = l' := by
  induction l generalizing l' with
  | nil => cases l' with
    | nil => rfl
    | cons a r => simp at h
  | cons a r ih => cases l' with
    | nil => simp at h
    | cons b r' =>
      simp only [List.map_cons, List.cons.injEq] at h
      rw [str_ext h.1, ih h.2]
theorem split_join {c : Nat} {l : List PySem.Str} (hl : l ≠ []) (hf : ∀ p ∈ l, c ∉ p.cps.toList) : Txt.split (Str.join ⟨#[c]⟩ l) ⟨#[c]⟩ = l := by
  have h1 := StrLaws.join_split (Str.join ⟨#[c]⟩ l) ⟨#[c]⟩
  have h2 := StrLaws.split_free (Str.join ⟨#[c]⟩ l) c
  have h3 := split_ne (Str.join ⟨#[c]⟩ l) ⟨#[c]⟩
  refine map_inj (glue_inj (c := c) (by simpa using h3) (by simpa using hl) ?_ ?_ ?_)
  · intro p hp
    obtain ⟨q, hq, rfl⟩ := List.mem_map.mp hp
    exact h2 q hq
  · intro p hp
    obtain ⟨q, hq, rfl⟩ := List.mem_map.mp hp
    exact hf q hq
  · rw [← join_glue, ← join_glue, h1]
theorem split_none {x : PySem.Str} {c : Nat} (h : c ∉ x.cps.toList) : Txt.split x ⟨#[c]⟩ = [x] := by
  have := split_join (c := c) (l := [x]) (by simp) (by simpa using h)
  exact this
end PS
end Mine
end
section
open PySem PySem.W PyProof.Rows PySem.Calls PySem.Spec PySem.Builtin PySem.Builtin.Str
namespace Mine
abbrev cs (x : PySem.Str) : List Nat := x.cps.toList
def Sg (c : Nat) : Prop := c = 97 ∨ c = 98 ∨ c = 42 ∨ c = 65 ∨ c = 66
/-- a word of the law: one to three like signs -/
def Wd (u : PySem.Str) : Prop := ∃ c k, cs u = List.replicate (k + 1) c ∧ k ≤ 2 ∧ Sg c
theorem len_cs (x : PySem.Str) : x.length = (cs x).length := by simp [cs, PySem.Str.length]
theorem Wd.len {u : PySem.Str} (h : Wd u) : 1 ≤ u.length ∧ u.length ≤ 3 := by
  obtain ⟨c, k, e, hk, _⟩ := h
  rw [len_cs, e, List.length_replicate]; omega
theorem Wd.signs {u : PySem.Str} (h : Wd u) : ∀ c ∈ cs u, Sg c := by
  obtain ⟨c, k, e, _, hc⟩ := h
  intro d hd
  rw [e] at hd
  rw [List.eq_of_mem_replicate hd]; exact hc
theorem Wd.notEmpty {u : PySem.Str} (h : Wd u) : (u == Str.ofString "") = false := by
  have := h.len.1
  cases q : (u == Str.ofString "") with
  | false => rfl
  | true =>
    have e := eq_of_beq q
    rw [e, show (Str.ofString "").length = 0 by decide +kernel] at this
    omega
theorem Sg.lt {c : Nat} (h : Sg c) : c < 128 := by unfold Sg at h; omega
theorem Sg.space {c : Nat} (h : Sg c) : Unicode.isSpace c = false := by
  rcases h with rfl | rfl | rfl | rfl | rfl <;> decide +kernel
theorem Wd.ok {u : PySem.Str} (h : Wd u) : PyData.strOk u = true := by
  unfold PyData.strOk
  rw [← Array.all_toList, List.all_eq_true]
  intro c hc
  have := (h.signs c hc).lt
  simp; omega
theorem cs_append (a b : PySem.Str) : cs (a ++ b) = cs a ++ cs b := by
  show (a ++ b).cps.toList = _
  rw [PySem.Str.cps_append, Array.toList_append]
theorem cs_space : cs (Str.ofString " ") = [32] := by decide +kernel
theorem cs_empty : cs (Str.ofString "") = [] := by decide +kernel
theorem str_ext {x y : PySem.Str} (h : cs x = cs y) : x = y := PySem.Str.ext' (Array.toList_inj.mp h)
theorem join_nil_cs : ∀ l : List PySem.Str, cs (Str.join (Str.ofString "") l) = (l.map cs).flatten
  | [] => by simp [Str.join, Str.empty, cs]
  | [x] => by simp [Str.join]
  | x :: y :: r => by
    show cs (x ++ Str.ofString "" ++ Str.join (Str.ofString "") (y :: r)) = _
    rw [cs_append, cs_append, cs_empty, List.append_nil, join_nil_cs (y :: r), List.map_cons (l := y :: r), List.flatten_cons]
theorem cs_txt (ws : List PySem.Str) : cs (txt ws) = (ws.map fun v => 32 :: cs v).flatten := by
  unfold txt
  show cs (glued _ _) = _
  rw [StrLaws.glued_eq_join, join_nil_cs, List.map_map]
  congr 1
  apply List.map_congr_left
  intro v _
  simp only [Function.comp]
  rw [cs_append, cs_space]; rfl
theorem txt_nil : txt [] = Str.ofString "" := str_ext (by rw [cs_txt, cs_empty]; rfl)
theorem txt_snoc (ws : List PySem.Str) (v : PySem.Str) : txt (ws ++ [v]) = txt ws ++ Str.ofString " " ++ v := by
  apply str_ext
  rw [cs_append, cs_append, cs_txt, cs_txt, cs_space]
  simp
theorem lenW_txt (ws : List PySem.Str) : lenW ws = ((txt ws).length : Int) := by
  rw [len_cs, cs_txt]
  unfold lenW
  induction ws with
  | nil => rfl
  | cons a r ih =>
    simp only [List.map_cons, List.sum_cons, List.flatten_cons, List.length_append, List.length_cons]
    rw [ih, len_cs a]
    push_cast
    omega
theorem txt_len_le {ws : List PySem.Str} (h : ∀ u ∈ ws, Wd u) : (txt ws).length ≤ 4 * ws.length := by
  rw [len_cs, cs_txt]
  induction ws with
  | nil => simp
  | cons a r ih =>
    have := ih fun u hu => h u (.tail _ hu)
    have := (h a (.head _)).len.2
    rw [len_cs] at this
    simp only [List.map_cons, List.flatten_cons, List.length_append, List.length_cons]
    omega
theorem lenW_pos {ws : List PySem.Str} (h : ws ≠ []) : lenW ws > 0 := by
  rw [lenW_txt, len_cs, cs_txt]
  cases ws with
  | nil => exact absurd rfl h
  | cons a r => simp only [List.map_cons, List.flatten_cons, List.length_append, List.length_cons]; omega
theorem txt_space {ws : List PySem.Str} (h : ∀ u ∈ ws, Wd u) (hne : ws ≠ []) : Txt.isspace (txt ws) = false := by
  cases ws with
  | nil => exact absurd rfl hne
  | cons a r =>
    unfold Txt.isspace
    rw [Bool.and_eq_false_iff]
    right
    rw [← Array.all_toList, List.all_eq_false]
    obtain ⟨c, k, e, _, hc⟩ := h a (.head _)
    refine ⟨c, ?_, by rw [hc.space]; decide⟩
    show c ∈ cs (txt (a :: r))
    rw [cs_txt]
    simp only [List.map_cons, List.flatten_cons, List.mem_append, List.mem_cons]
    left; right; rw [e]; simp
theorem txt_signs {ws : List PySem.Str} (h : ∀ u ∈ ws, Wd u) : ∀ c ∈ cs (txt ws), c = 32 ∨ Sg c := by
  intro c hc
  rw [cs_txt] at hc
  obtain ⟨l, hl, hc⟩ := List.mem_flatten.mp hc
  obtain ⟨u, hu, rfl⟩ := List.mem_map.mp hl
  rcases List.mem_cons.mp hc with rfl | hc
  · exact .inl rfl
  · exact .inr ((h u hu).signs c hc)
theorem tups_pop {h : Heap} {its : Array Value} {ws : List PySem.Str} {v : PySem.Str} (x : TupsAt h its (ws ++ [v])) : ∃ its0 T tf tv, its = its0.push (.ref T) ∧ TupsAt h its0 ws ∧ h.IsTuple T #[.str (Str.ofString " ") tf, .str v tv] := by
  obtain ⟨hz, hx⟩ := x
  simp only [List.length_append, List.length_cons, List.length_nil] at hz hx
  obtain ⟨T, tf, tv, e1, e2⟩ := hx ws.length (by omega)
  refine ⟨its.pop, T, tf, tv, ?_, ⟨by rw [Array.size_pop]; omega, fun j hj => ?_⟩, ?_⟩
  · apply Array.ext
    · rw [Array.size_push, Array.size_pop]; omega
    · intro i h1 h2
      by_cases hi : i = ws.length
      · subst hi
        have := (Array.getElem?_eq_some_iff.mp e1).2
        rw [this, Array.getElem_push, dif_neg (by rw [Array.size_pop]; omega)]
      · rw [Array.getElem_push, dif_pos (by rw [Array.size_pop]; omega), Array.getElem_pop]
  · obtain ⟨T', tf', tv', e3, e4⟩ := hx j (by omega)
    refine ⟨T', tf', tv', ?_, ?_⟩
    · rw [Array.getElem?_pop, if_pos (by omega)]; exact e3
    · rw [List.getElem_append_left hj] at e4; exact e4
  · simpa using e2
theorem strs_push {lns : Array Value} {lines : List PySem.Str} {y : PySem.Str} {t : Tok} (h : StrsAre lns.toList lines) : StrsAre (lns.push (.str y t)).toList (lines ++ [y]) := by
  rw [Array.toList_push]
  have : ∀ {vs ys}, StrsAre vs ys → StrsAre (vs ++ [.str y t]) (ys ++ [y]) := by
    intro vs ys h
    induction h with
    | nil => exact .cons _ _ .nil
    | cons y' t' _ ih => exact .cons _ _ ih
  exact this h
theorem strs_len {vs : List Value} {ys : List PySem.Str} (h : StrsAre vs ys) : vs.length = ys.length := by
  induction h with
  | nil => rfl
  | cons _ _ _ ih => simp [ih]
end Mine
end
section
open PySem PySem.W PyProof.Rows PySem.Calls PySem.Spec
set_option maxRecDepth 100000
namespace Mine
theorem newline_N (w : World) {p : Program} {loose : List PySem.Str} {mean : ExcName → Option Value} {mg mb : PySem.Str → Option Value} (dp un : Nat) (gd : Option (List Code)) (cn : PySem.Str) (cs : Scope) (a : Addr) (ccd : Value) (cl : List (PySem.Str × Addr)) (outer : List Env) (A₀ : Around) (base h₀ : Heap) (L : Addr) (m : PySem.Str → Option Value) (s : Shared) (Q E : Value → Shared → Prop) (mk dmk ln x dx : Addr) (g1 g2 g3 g4 g5 g6 e1 mxl : Int) (m1 m2 m3 m4 m5 m6 m7 m8 m9 tW k1 t0 : Tok) (lns its : Array Value) (cn' n : Nat) (p2 p9 : Array Value) (ws : List PySem.Str) (news : List (Addr × Obj)) (news' : Nat → Tok → Tok → Array Value → Array Value → List (Addr × Obj))
    (B : Below A₀ base outer h₀) (F : Fr h₀ L s.heap m) (X : (Mine.hd.heap_1 w.params).In h₀) (T : Top p loose mean mg mb h₀) (hk : cs.kind = .function) (hd : dp + 10 < recursionLimit) (hu : un + 200 < cLine)
    (N : News h₀ L s.heap news) (i1 : (mk, instObj 136 dmk) ∈ news) (i2 : (dmk, dictOf [⟨g1, .str (Str.ofString "_maxlen") m1, .int mxl tW⟩, ⟨g2, .str (Str.ofString "_continuation_ws") m2, .str (Str.ofString " ") m3⟩, ⟨g3, .str (Str.ofString "_continuation_ws_len") m4, .int 1 m5⟩, ⟨g4, .str (Str.ofString "_splitchars") m6, .str (Str.ofString " ") m7⟩, ⟨g5, .str (Str.ofString "_lines") m8, .ref ln⟩, ⟨g6, .str (Str.ofString "_current_line") m9, .ref x⟩] 6) ∈ news) (i3 : (ln, W.listOf lns cn') ∈ news) (i4 : (x, accO dx its n) ∈ news) (i5 : (dx, dictOf [⟨e1, .str (Str.ofString "_initial_size") k1, .int 0 t0⟩] 1) ∈ news) (i6 : (182, tabObj p2) ∈ news) (i7 : (189, tabObj p9) ∈ news)
    (U : ∀ n' t' t1 p2' p9', Upds [(ln, W.listOf lns cn'), (x, accO dx its n), (dx, dictOf [⟨e1, .str (Str.ofString "_initial_size") k1, .int 0 t0⟩] 1), (182, tabObj p2), (189, tabObj p9)] [(ln, W.listOf (lns.push (.str (txt ws) t1)) (cn' + 1)), (x, accO dx #[] n'), (dx, dictOf [⟨e1, .str (Str.ofString "_initial_size") k1, .int 0 t'⟩] 1), (182, tabObj p2'), (189, tabObj p9')] news (news' n' t' t1 p2' p9'))
    (hsz : its.size ≤ 900) (hsl : lns.size ≤ 900) (hp2 : psOk pos132 p2) (hp9 : psOk pos135 p9) (hT : TupsAt s.heap its ws)
    (hw : ∀ u ∈ ws, Wd u) (hne : ws ≠ [])
    (h : ∀ n' t' t1 p2' p9' h' gs tk', Fr h₀ L h' m → News h₀ L h' (news' n' t' t1 p2' p9') → psOk pos132 p2' → psOk pos135 p9' → (AllBare s.gens → AllBare gs) → Tk s.heap h' → Q .none { s with heap := h', gens := gs, toks := tk' })
    : wpAny (model PySem.Challenge.rw_wn0105_01.row.prog w) (ktrTop dp un gd cn cs L a ccd cl outer) (call (.ref 98) [.ref mk]) Q E s := by
  obtain ⟨ws0, v, rfl⟩ : ∃ ws0 v, ws = ws0 ++ [v] := ⟨ws.dropLast, ws.getLast hne, (List.dropLast_concat_getLast hne).symm⟩
  obtain ⟨its0, T0, tf, tv, rfl, hT0, hTT⟩ := tups_pop hT
  have hv := hw v (by simp)
  have hpos := lenW_pos hne
  exact newline_K w dp un gd cn cs a ccd cl outer A₀ base h₀ L m s Q E mk dmk ln x dx g1 g2 g3 g4 g5 g6 e1 mxl m1 m2 m3 m4 m5 m6 m7 m8 m9 tW k1 t0 lns its0 cn' n T0 p2 p9 ws0 v tf tv news news' B F X T hk hd hu N i1 i2 i3 i4 i5 i6 i7 U
    (by rw [Array.size_push] at hsz; omega) hsl hp2 hp9 hT0 hTT (fun u hu => by have := (hw u hu).len.2; omega) hv.notEmpty hv.ok (by omega) hpos (txt_space hw hne) h
end Mine
end
section
open PySem PySem.W PyProof.Rows PySem.Calls PySem.Spec
set_option maxRecDepth 100000
namespace Mine
local macro_rules | `(tactic| k_mem) => `(tactic| assumption)
local macro_rules | `(tactic| k_inst) => `(tactic| (refine' Mine.InstAt.ofAcc ?N ?h1 ?h2; (case N => k_asm); (case h1 => k_mem); (case h2 => k_mem)))
local macro_rules | `(tactic| k_ne) => `(tactic| (refine neN ?_; (try dsimp only); first | exact Mine.NeA.ne (by with_reducible assumption) | exact Mine.NeA.ne' (by with_reducible assumption) | omega))
local macro_rules | `(tactic| walk_at $s:str) => `(tactic| k_extra $s)
theorem words_C12 : True := by
  k_with_none
  w_top off
  k_with "myenter" => (first | ((refine' Mine.enterR (by k_asm) (by k_asm) (by k_asm) (by k_asm) (by k_asm) (by exact rfl) (by exact rfl) (by assumption) (by k_is) (by k_is) (by ktr_room) (by first | exact BindsTo.of_eq rfl | exact binds_K (by k_in) rfl (by k_is) rfl rfl rfl) (by exact locs rfl) ?_ (by exact rfl) (by exact rfl) (by exact rfl) (by decide); k_whole; intro g' L' h' hG' FG' F' N' B' X' T' l1; (try k_lt l1); (try dsimp only); (try k_lift B'); (try k_fold))) | fail "no")
  k_with "mylen" => (first | (first | omega | (simp only [PySem.Str.length_append, PySem.sizeLine_eq] at *; omega)) | fail "no")
  k_with "getMethod ref" => (first | ((k_here; k_dflt (first | refine' Mine.method_fnL (by k_in) (by k_inst) (by k_is) (by k_is) (by k_is) (by k_is) (by exact Mine.shadow_dict (by k_get)) ?_; k_whole | refine' Mine.method_biL (by k_in) (by k_inst) (by k_is) (by k_is) (by k_is) (by exact PySem.F.type_list_append) (by exact Mine.shadow_dict (by k_get)) ?_; k_whole))) | fail "no")
  k_with "call builtin:list.append" => (first | ((k_here; (with_reducible show wpAny _ _ (call (Value.builtin _) [Value.ref _, _]) _ _ _); k_dflt (refine' Mine.append_accL (by k_asm) (by k_asm) (by k_asm) (by k_upd) (by k_mem) (by k_is) ?_ (by walk_at "mylen"); k_whole); intro h' F' N'; (try k_sweep))) | fail "no")
  k_with "getAttr ref" => (first | ((k_here; k_dflt (refine' Mine.get_ownL' (by k_asm) (by k_asm) (by k_inst) (by k_is) (by k_is) (by k_is) (by k_is) (by k_is) (by k_is) (by k_get) (by k_handed) ?_; k_whole))) | fail "no")
  k_with "mytups" => (first | (first | assumption | exact Mine.TupsAt.keeps (by assumption) (fun b o e _ => Fr.keep (by k_asm) b o e)) | fail "no")
  k_with "eval GeneratorExp" => (first | ((k_here; k_dflt (first | ((with_reducible show wpAny _ _ (eval (Expr.GeneratorExp (Expr.BinOp _ _ _ _) _ _ _) _) _ _ _); refine' Mine.gen_len_K (by k_asm) (by k_asm) (by k_asm) (by k_asm) (by exact rfl) (by exact rfl) (by exact rfl) (by exact rfl) (by exact rfl) (by ktr_room) (by k_mem) (by k_mem) (by (intro ps'; k_upd)) (by assumption) (by walk_at "mytups") (by assumption) ?_) | ((with_reducible show wpAny _ _ (eval (Expr.GeneratorExp (Expr.Call _ _ _ _) _ _ _) _) _ _ _); refine' Mine.gen_join_K (by exact rfl) (by k_asm) (by k_asm) (by k_asm) (by k_asm) (by exact rfl) (by exact rfl) (by exact rfl) (by exact rfl) (by exact rfl) (by ktr_room) (by k_mem) (by k_mem) (by (intro ps'; k_upd)) (by assumption) (by walk_at "mytups") (by assumption) ?_)); intro a' ps' h' gs' tk' lo' F' N' hps' hAB' hlo' hlo2' G'; (try dsimp only at N'))) | fail "no")
  k_with "call builtin:sum" => (first | ((k_here; k_dflt (refine' Mine.sum_len_K (by k_asm) (by k_asm) (by refine Mine.Gen.toks (by assumption) ?_; first | exact Nat.le_succ _ | exact Nat.le_refl _) (by exact (Mine.TupsAt.size (by assumption)).symm) (by assumption) (by assumption) ?_); intro h' gs' tk' t' F' N' hAB' hK')) | fail "no")
  k_with "call builtin:str.join" => (first | ((k_here; (with_reducible show wpAny _ _ (call (Value.builtin _) [Value.str _ _, Value.ref _]) _ _ _); k_dflt (refine' Mine.join_str_K (by k_asm) (by k_asm) (by refine Mine.Gen.toks (by assumption) ?_; first | exact Nat.le_succ _ | exact Nat.le_refl _) (by exact (Mine.TupsAt.size (by assumption)).symm) (by assumption) (by assumption) (by assumption) (by assumption) ?_); intro h' gs' tk' t' F' N' hAB' hK')) | fail "no")
  k_with "ksenter" => (first | ((refine' Mine.ks_codeR (by k_asm) (by k_asm) (by k_asm) (by k_asm) (by k_asm) (by exact rfl) (by exact rfl) (by assumption) (by k_is) (by k_is) (by ktr_room) (by first | exact BindsTo.of_eq rfl | exact binds_K (by k_in) rfl (by k_is) rfl rfl rfl) (by exact locs rfl) ?_ (by decide) (by exact rfl) (by exact rfl) (by exact rfl); intro g' L' h' hG' FG' F' N' B' X' T' l1; (try k_lt l1); (try dsimp only); (try k_lift B'); (try k_fold))) | fail "no")
  k_with "getMethod ref" => (first | ((k_here; k_dflt (refine' Mine.meth_len_K (by k_asm) (by k_asm) (by k_asm) (by k_mem) (by k_inst) (by k_is) (by k_is) (by ks_is) (by decide) (by first | exact Mine.ty_len | exact Mine.ty_pop | exact Mine.ty_init) (by first | exact Or.inl ⟨rfl, rfl⟩ | exact Or.inr ⟨rfl, rfl⟩) (by first | exact Mine.nc_len | exact Mine.nc_pop | exact Mine.nc_init) (by decide +kernel) ?_; intro q' h' F' N' l1; (try k_lt l1)))) | fail "no")
  k_with "callWith ref" => (first | ((k_here; k_dflt (refine' Mine.callWith_B (by k_asm) (by k_mem) (by first | exact Or.inl rfl | exact Or.inr rfl) ?_))) | fail "no")
  k_with "call ref" => (first | ((k_here; k_dflt (first | (refine' Mine.call_len_K (by k_asm) (by k_mem) (by k_mem) ?_; intro t' tk') | (refine' Mine.call_pop_K (by k_asm) (by k_asm) (by k_asm) (by k_mem) (by k_upd) (by k_mem) (by exact rfl) (by rfl) (by k_is) (by k_is) (by walk_at "mylen") ?_; intro h' F' N')))) | fail "no")
  k_with "newsx" => (first | (first | (intro _; exact News.nil) | (intro nx; refine' Mine.News.one nx (by k_mem) (by walk_at "newsx"))) | fail "no")
  k_with "news" => (first | (first | assumption | (refine' Mine.News.one (by assumption) (by k_mem) (by walk_at "newsx")) | (refine News.perm (by assumption) ?_; simp; done) | (refine News.perm (by assumption) ?_; intro p hp; simp only [List.mem_cons, List.not_mem_nil, or_false] at hp ⊢; rcases hp with rfl | hp <;> simp_all)) | fail "no")
  k_with "kb" => (first | (exact Mine.KB.fin (by assumption) (by assumption)) | fail "no")
  k_with "splitne" => (first | ((repeat ((with_reducible rename Mine.NeA _ _ ∧ _ => kc'); (first | (refine Mine.sp16 kc' ?_; intro _ _ _ _ _ _ _ _ _ _ _ _ _ _ _ _ _) | (refine Mine.sp8 kc' ?_; intro _ _ _ _ _ _ _ _ _) | (refine Mine.sp4 kc' ?_; intro _ _ _ _ _) | (refine Mine.sp2 kc' ?_; intro _ _ _) | (refine Mine.sp1 kc' ?_; intro _ _)); clear kc'))) | fail "no")
  k_with "upds" => (first | (first | exact Mine.Upds.nil | (refine' Mine.Upds.cons (by k_upd) (by walk_at "upds"))) | fail "no")
  k_with "mylens" => (first | (assumption) | fail "no")
  k_with "call ref" => (first | ((k_here; k_dflt ((first | with_reducible show wpAny _ _ (call (Value.ref 217) _) _ _ _ | with_reducible show wpAny _ _ (call (Value.ref (nat_lit 217)) _) _ _ _); refine' Mine.part_count_K _ _ _ _ _ _ _ _ _ _ _ _ _ _ _ _ _ _ _ _ _ _ _ _ _ _ _ (by k_asm) (by k_asm) (by k_asm) (by k_asm) (by first | assumption | exact rfl) (by (dsimp only [ktrTop, Around.deeper]; omega)) (by (dsimp only [ktrTop, Around.deeper]; omega)) (by k_asm) (by k_mem) (by k_mem) ?_); intro h' tk' t' F' N')) | fail "no")
  k_with "call ref" => (first | ((k_here; k_dflt ((first | with_reducible show wpAny _ _ (call (Value.ref 187) _) _ _ _ | with_reducible show wpAny _ _ (call (Value.ref (nat_lit 187)) _) _ _ _); refine' Mine.len_K _ _ _ _ _ _ _ _ _ _ _ _ _ _ _ _ _ _ _ _ _ _ _ _ _ _ _ _ _ _ (by k_asm) (by k_asm) (by k_asm) (by k_asm) (by first | assumption | exact rfl) (by (dsimp only [ktrTop, Around.deeper]; omega)) (by (dsimp only [ktrTop, Around.deeper]; omega)) (by k_asm) (by k_mem) (by k_mem) (by (intro ps'; walk_at "upds")) (by assumption) (by walk_at "mytups") (by walk_at "mylens") (by walk_at "mylen") ?_); intro ps' h' gs' tk' t' F' N' hps' hAB' hlb'; (try dsimp only at N'); (try (refine Mine.len_back (by assumption) ?_)))) | fail "no")
  k_with "call ref" => (first | ((k_here; k_dflt ((first | with_reducible show wpAny _ _ (call (Value.ref 194) _) _ _ _ | with_reducible show wpAny _ _ (call (Value.ref (nat_lit 194)) _) _ _ _); refine' Mine.str_K _ _ _ _ _ _ _ _ _ _ _ _ _ _ _ _ _ _ _ _ _ _ _ _ _ _ _ _ _ _ (by k_asm) (by k_asm) (by k_asm) (by k_asm) (by first | assumption | exact rfl) (by (dsimp only [ktrTop, Around.deeper]; omega)) (by (dsimp only [ktrTop, Around.deeper]; omega)) (by k_asm) (by k_mem) (by k_mem) (by (intro ps'; walk_at "upds")) (by assumption) (by walk_at "mytups") (by walk_at "mylens") (by walk_at "mylen") ?_); intro ps' h' gs' tk' t' F' N' hps' hAB' hTk'; (try dsimp only at N'); (try dsimp only [W.StrBack]))) | fail "no")
  k_with "call ref" => (first | ((k_here; k_dflt ((first | with_reducible show wpAny _ _ (call (Value.ref 164) _) _ _ _ | with_reducible show wpAny _ _ (call (Value.ref (nat_lit 164)) _) _ _ _); refine' Mine.push_K _ _ _ _ _ _ _ _ _ _ _ _ _ _ _ _ _ _ _ _ _ _ _ _ _ _ _ _ _ _ _ _ (by k_asm) (by k_asm) (by k_asm) (by k_asm) (by first | assumption | exact rfl) (by (dsimp only [ktrTop, Around.deeper]; omega)) (by (dsimp only [ktrTop, Around.deeper]; omega)) (by k_asm) (by k_mem) (by (intro tp'; walk_at "upds")) (by walk_at "mylen") ?_); intro tp' h' tk' F' N' hne'; (try dsimp only at N'); (replace hne' := Mine.allNe_of hne'; dsimp only [Mine.AllNe] at hne'; walk_at "splitne"))) | fail "no")
  k_with "subscriptTail Name Slice ref ref" => (first | ((k_here; (with_reducible show wpAny _ _ (subscriptTail _ (PySem.Expr.Slice _ _ none _) (Value.ref _) (Value.ref _)) _ _ _); k_dflt (refine' Mine.slice_K (by k_asm) (by k_asm) (by k_asm) (by k_mem) (by k_mem) (by k_is) (by k_is) (by k_is) (by kmk_part) (by kmk_part) (by walk_at "mylen") (by first | exact Mine.pick_from (by assumption) | exact rfl) ?_ (by with_unfolding_all rfl) (by kmk_pure)); intro D' h' F' N' l1; (try k_lt l1))) | fail "no")
  k_with "setItem ref ref" => (first | ((k_here; k_dflt (refine' Mine.setitem_K (by k_asm) (by k_asm) (by k_asm) (by kmk_list) (by (intro n'; k_upd)) (by k_mem) (by k_is) (by k_is) (by k_is) (by kmk_part) (by kmk_part) (by walk_at "mylen") (by first | walk_at "mylen" | (simp; done)) (by first | exact Mine.set_from (by assumption) | exact Mine.set_all | exact rfl) ?_); intro n' h' F' N'; (try dsimp only at N'))) | fail "no")
  k_with "setAttr ref" => (first | ((k_here; k_dflt (refine' Mine.set_dictL (by k_asm) (by k_asm) (by k_asm) (by k_inst) (by exact rfl) (by k_is) (by exact Mine.mro220 _) (by k_is) (by k_is) (by k_get) (by k_put) (by k_upd) (by exact Nat.le_of_ble_eq_true rfl) ?_; k_whole; intro h' F' N'; (try k_sweep)))) | fail "no")
  k_with "wpAt" => (first | (((with_reducible show _root_.PySem.wpAt _ _ _ (execs (_ :: _) _) _ _ _); refine ks_wpAt_execs_cons ?_)) | fail "no")
  k_with "wpAt" => (first | ((ks_step "eval Call"; k_dflt (refine ks_wpAt_MethodCall ?_))) | fail "no")
  k_with "truthy ref" => (first | ((k_here; k_dflt (refine' Mine.truthy_lenL (by k_in) (by k_inst) (by k_is) (by k_is) (by k_is) ?_; k_whole))) | fail "no")
  k_with "Exists" => (first | ((refine ⟨_, _, rfl, ?_⟩)) | fail "no")
  k_with "units" => (first | (first | k_units | (dsimp only [ktrTop, Around.deeper, Around.in1]; omega) | (simp only [ktrTop, Around.deeper, Around.in1, Around.under]; omega)) | fail "no")
  k_with "call type:str" => (first | ((k_here; (with_reducible show wpAny _ _ (call (Value.type "str") [Value.ref _]) _ _ _); k_dflt (refine' kso_call (by walk_at "units") (by k_in) (by k_inst) (by k_is) (by k_is) ?_; k_whole))) | fail "no")
  k_with "sizelen" => (first | (first | assumption | omega | (rw [PySem.sizeLine_eq]; omega) | (simp only [Array.size_push]; omega) | exact Nat.zero_le _) | fail "no")
  k_with "call ref" => (first | ((k_here; k_dflt ((first | with_reducible show wpAny _ _ (call (Value.ref 98) _) _ _ _ | with_reducible show wpAny _ _ (call (Value.ref (nat_lit 98)) _) _ _ _); refine' Mine.newline_N _ _ _ _ _ _ _ _ _ _ _ _ _ _ _ _ _ _ _ _ _ _ _ _ _ _ _ _ _ _ _ _ _ _ _ _ _ _ _ _ _ _ _ _ _ _ _ _ _ _ _ _ (by k_asm) (by k_asm) (by k_asm) (by k_asm) (by first | assumption | exact rfl) (by (dsimp only [ktrTop, Around.deeper]; omega)) (by (dsimp only [ktrTop, Around.deeper]; omega)) (by k_asm) (by k_mem) (by k_mem) (by k_mem) (by k_mem) (by k_mem) (by k_mem) (by k_mem) (by (intro n' t' t1' p2' p9'; walk_at "upds")) (by walk_at "sizelen") (by walk_at "sizelen") (by assumption) (by assumption) (by walk_at "mytups") (by assumption) (by assumption) ?_); intro n' t' t1' p2' p9' h' gs' tk' F' N' hp2' hp9' hAB' hTk'; (try dsimp only at N'))) | fail "no")
  k_with "call builtin:str.join" => (first | ((k_here; (with_reducible show wpAny _ _ (call (Value.builtin _) [Value.str _ _, Value.ref _]) _ _ _); k_dflt (refine join_list (by is_list) (Mine.strs_push (by assumption)) (by assumption) ?_); intro _ _)) | fail "no")
  trivial
set_option maxHeartbeats 4000000 in
theorem fin_ok (w : World) {p : Program} {loose : List PySem.Str} {mean : ExcName → Option Value} {mg mb : PySem.Str → Option Value} (dp un : Nat) (gd : Option (List Code)) (cn : PySem.Str) (cs : Scope) (a : Addr) (ccd : Value) (cl : List (PySem.Str × Addr)) (outer : List Env) (A₀ : Around) (base h₀ : Heap) (L : Addr) (m : PySem.Str → Option Value) (s : Shared) (Q E : Value → Shared → Prop) (mk dmk ln x dx : Addr) (g1 g2 g3 g4 g5 g6 e1 mxl : Int) (m1 m2 m3 m4 m5 m6 m7 m8 m9 tW k1 t0 : Tok) (lns its : Array Value) (cn' n : Nat) (p2 p9 : Array Value) (ws lines : List PySem.Str) (tb : Tok)
    (B : Below A₀ base outer h₀) (F : Fr h₀ L s.heap m) (X : (Mine.hd.heap_1 w.params).In h₀) (T : Top p loose mean mg mb h₀) (hk : cs.kind = .function) (hd : dp + 20 < recursionLimit) (hu : un + 300 < cLine)
    (N : News h₀ L s.heap [(mk, instObj 136 dmk), (dmk, dictOf [⟨g1, .str (Str.ofString "_maxlen") m1, .int mxl tW⟩, ⟨g2, .str (Str.ofString "_continuation_ws") m2, .str (Str.ofString " ") m3⟩, ⟨g3, .str (Str.ofString "_continuation_ws_len") m4, .int 1 m5⟩, ⟨g4, .str (Str.ofString "_splitchars") m6, .str (Str.ofString " ") m7⟩, ⟨g5, .str (Str.ofString "_lines") m8, .ref ln⟩, ⟨g6, .str (Str.ofString "_current_line") m9, .ref x⟩] 6), (ln, W.listOf lns cn'), (x, accO dx its n), (dx, dictOf [⟨e1, .str (Str.ofString "_initial_size") k1, .int 0 t0⟩] 1), (182, tabObj p2), (189, tabObj p9)])
    (hne : NeA mk dmk ∧ NeA mk ln ∧ NeA mk x ∧ NeA mk dx ∧ NeA mk 182 ∧ NeA mk 189 ∧ NeA dmk ln ∧ NeA dmk x ∧ NeA dmk dx ∧ NeA dmk 182 ∧ NeA dmk 189 ∧ NeA ln x ∧ NeA ln dx ∧ NeA ln 182 ∧ NeA ln 189 ∧ NeA x dx ∧ NeA x 182 ∧ NeA x 189 ∧ NeA dx 182 ∧ NeA dx 189)
    (hsz : its.size ≤ 900) (hsl : lns.size ≤ 900) (hp2 : psOk pos132 p2) (hp9 : psOk pos135 p9) (hT : TupsAt s.heap its ws)
    (hw : ∀ u ∈ ws, Wd u) (hws : ws ≠ []) (hL : StrsAre lns.toList lines) (hJ : ((lines ++ [txt ws]).map (·.length)).sum + (lines ++ [txt ws]).length * (Str.ofString "|").length ≤ 16777216)
    (hret : ∀ lns' c' n' t' t1 p2' p9' h' gs tk', Fr h₀ L h' m → News h₀ L h' [(mk, instObj 136 dmk), (dmk, dictOf [⟨g1, .str (Str.ofString "_maxlen") m1, .int mxl tW⟩, ⟨g2, .str (Str.ofString "_continuation_ws") m2, .str (Str.ofString " ") m3⟩, ⟨g3, .str (Str.ofString "_continuation_ws_len") m4, .int 1 m5⟩, ⟨g4, .str (Str.ofString "_splitchars") m6, .str (Str.ofString " ") m7⟩, ⟨g5, .str (Str.ofString "_lines") m8, .ref ln⟩, ⟨g6, .str (Str.ofString "_current_line") m9, .ref x⟩] 6), (ln, W.listOf lns' c'), (x, accO dx #[] n'), (dx, dictOf [⟨e1, .str (Str.ofString "_initial_size") k1, .int 0 t'⟩] 1), (182, tabObj p2'), (189, tabObj p9')] → psOk pos132 p2' → psOk pos135 p9' → (AllBare s.gens → AllBare gs) → KB [(mk, instObj 136 dmk), (dmk, dictOf [⟨g1, .str (Str.ofString "_maxlen") m1, .int mxl tW⟩, ⟨g2, .str (Str.ofString "_continuation_ws") m2, .str (Str.ofString " ") m3⟩, ⟨g3, .str (Str.ofString "_continuation_ws_len") m4, .int 1 m5⟩, ⟨g4, .str (Str.ofString "_splitchars") m6, .str (Str.ofString " ") m7⟩, ⟨g5, .str (Str.ofString "_lines") m8, .ref ln⟩, ⟨g6, .str (Str.ofString "_current_line") m9, .ref x⟩] 6), (ln, W.listOf lns cn'), (x, accO dx its n), (dx, dictOf [⟨e1, .str (Str.ofString "_initial_size") k1, .int 0 t0⟩] 1), (182, tabObj p2), (189, tabObj p9)] s.heap h' → Q (.str (Txt.join (Str.ofString "|") (lines ++ [txt ws])) t1) { s with heap := h', gens := gs, toks := tk' })
    : wpAny (model PySem.Challenge.rw_wn0105_01.row.prog w) (ktrTop dp un gd cn cs L a ccd cl outer) (call (.ref 84) [.ref mk, .str (Str.ofString "|") tb]) Q E s := by
  obtain ⟨a1, a2, a3, a4, a5, a6, a7, a8, a9, a10, a11, a12, a13, a14, a15, a16, a17, a18, a19, a20⟩ := hne
  revert X; k_fill; intro X
  refine wpAny_call ?_
  k_dflt walk_at "myenter"
  (rename Fr _ _ _ _ => kF')
  replace kF' : Fr _ _ _ (fun y => List.lookup y [(Str.ofString "linesep", Value.str (Str.ofString "|") tb), (Str.ofString "self", Value.ref mk)]) := kF'
  (have hTg := TupsAt.kb hT N (by assumption) (by simp))
  k_steps
  exact hret _ _ _ _ _ _ _ _ _ _ (by k_asm) (by walk_at "news") (by assumption) (by assumption) (by intro hx; solve_by_elim) (by walk_at "kb")
end Mine
end
section
open PySem PySem.W PyProof.Rows PySem.Calls PySem.Spec
set_option maxRecDepth 100000
namespace Mine
local macro_rules | `(tactic| k_mem) => `(tactic| assumption)
local macro_rules | `(tactic| k_inst) => `(tactic| (refine' Mine.InstAt.ofAcc ?N ?h1 ?h2; (case N => k_asm); (case h1 => k_mem); (case h2 => k_mem)))
local macro_rules | `(tactic| k_ne) => `(tactic| (refine neN ?_; (try dsimp only); first | exact Mine.NeA.ne (by with_reducible assumption) | exact Mine.NeA.ne' (by with_reducible assumption) | omega))
local macro_rules | `(tactic| walk_at $s:str) => `(tactic| k_extra $s)
theorem words_C9 : True := by
  k_with_none
  w_top off
  k_with "myenter" => (first | ((refine' Mine.enterR (by k_asm) (by k_asm) (by k_asm) (by k_asm) (by k_asm) (by exact rfl) (by exact rfl) (by assumption) (by k_is) (by k_is) (by ktr_room) (by first | exact BindsTo.of_eq rfl | exact binds_K (by k_in) rfl (by k_is) rfl rfl rfl) (by exact locs rfl) ?_ (by exact rfl) (by exact rfl) (by exact rfl) (by decide); k_whole; intro g' L' h' hG' FG' F' N' B' X' T' l1; (try k_lt l1); (try dsimp only); (try k_lift B'); (try k_fold))) | fail "no")
  k_with "mylen" => (first | (first | omega | (simp only [PySem.Str.length_append, PySem.sizeLine_eq] at *; omega)) | fail "no")
  k_with "getMethod ref" => (first | ((k_here; k_dflt (first | refine' Mine.method_fnL (by k_in) (by k_inst) (by k_is) (by k_is) (by k_is) (by k_is) (by exact Mine.shadow_dict (by k_get)) ?_; k_whole | refine' Mine.method_biL (by k_in) (by k_inst) (by k_is) (by k_is) (by k_is) (by exact PySem.F.type_list_append) (by exact Mine.shadow_dict (by k_get)) ?_; k_whole))) | fail "no")
  k_with "call builtin:list.append" => (first | ((k_here; (with_reducible show wpAny _ _ (call (Value.builtin _) [Value.ref _, _]) _ _ _); k_dflt (refine' Mine.append_accL (by k_asm) (by k_asm) (by k_asm) (by k_upd) (by k_mem) (by k_is) ?_ (by walk_at "mylen"); k_whole); intro h' F' N'; (try k_sweep))) | fail "no")
  k_with "getAttr ref" => (first | ((k_here; k_dflt (refine' Mine.get_ownL' (by k_asm) (by k_asm) (by k_inst) (by k_is) (by k_is) (by k_is) (by k_is) (by k_is) (by k_is) (by k_get) (by k_handed) ?_; k_whole))) | fail "no")
  k_with "mytups" => (first | (first | assumption | exact Mine.TupsAt.keeps (by assumption) (fun b o e _ => Fr.keep (by k_asm) b o e)) | fail "no")
  k_with "eval GeneratorExp" => (first | ((k_here; k_dflt (first | ((with_reducible show wpAny _ _ (eval (Expr.GeneratorExp (Expr.BinOp _ _ _ _) _ _ _) _) _ _ _); refine' Mine.gen_len_K (by k_asm) (by k_asm) (by k_asm) (by k_asm) (by exact rfl) (by exact rfl) (by exact rfl) (by exact rfl) (by exact rfl) (by ktr_room) (by k_mem) (by k_mem) (by (intro ps'; k_upd)) (by assumption) (by walk_at "mytups") (by assumption) ?_) | ((with_reducible show wpAny _ _ (eval (Expr.GeneratorExp (Expr.Call _ _ _ _) _ _ _) _) _ _ _); refine' Mine.gen_join_K (by exact rfl) (by k_asm) (by k_asm) (by k_asm) (by k_asm) (by exact rfl) (by exact rfl) (by exact rfl) (by exact rfl) (by exact rfl) (by ktr_room) (by k_mem) (by k_mem) (by (intro ps'; k_upd)) (by assumption) (by walk_at "mytups") (by assumption) ?_)); intro a' ps' h' gs' tk' lo' F' N' hps' hAB' hlo' hlo2' G'; (try dsimp only at N'))) | fail "no")
  k_with "call builtin:sum" => (first | ((k_here; k_dflt (refine' Mine.sum_len_K (by k_asm) (by k_asm) (by refine Mine.Gen.toks (by assumption) ?_; first | exact Nat.le_succ _ | exact Nat.le_refl _) (by exact (Mine.TupsAt.size (by assumption)).symm) (by assumption) (by assumption) ?_); intro h' gs' tk' t' F' N' hAB' hK')) | fail "no")
  k_with "call builtin:str.join" => (first | ((k_here; (with_reducible show wpAny _ _ (call (Value.builtin _) [Value.str _ _, Value.ref _]) _ _ _); k_dflt (refine' Mine.join_str_K (by k_asm) (by k_asm) (by refine Mine.Gen.toks (by assumption) ?_; first | exact Nat.le_succ _ | exact Nat.le_refl _) (by exact (Mine.TupsAt.size (by assumption)).symm) (by assumption) (by assumption) (by assumption) (by assumption) ?_); intro h' gs' tk' t' F' N' hAB' hK')) | fail "no")
  k_with "ksenter" => (first | ((refine' Mine.ks_codeR (by k_asm) (by k_asm) (by k_asm) (by k_asm) (by k_asm) (by exact rfl) (by exact rfl) (by assumption) (by k_is) (by k_is) (by ktr_room) (by first | exact BindsTo.of_eq rfl | exact binds_K (by k_in) rfl (by k_is) rfl rfl rfl) (by exact locs rfl) ?_ (by decide) (by exact rfl) (by exact rfl) (by exact rfl); intro g' L' h' hG' FG' F' N' B' X' T' l1; (try k_lt l1); (try dsimp only); (try k_lift B'); (try k_fold))) | fail "no")
  k_with "getMethod ref" => (first | ((k_here; k_dflt (refine' Mine.meth_len_K (by k_asm) (by k_asm) (by k_asm) (by k_mem) (by k_inst) (by k_is) (by k_is) (by ks_is) (by decide) (by first | exact Mine.ty_len | exact Mine.ty_pop | exact Mine.ty_init) (by first | exact Or.inl ⟨rfl, rfl⟩ | exact Or.inr ⟨rfl, rfl⟩) (by first | exact Mine.nc_len | exact Mine.nc_pop | exact Mine.nc_init) (by decide +kernel) ?_; intro q' h' F' N' l1; (try k_lt l1)))) | fail "no")
  k_with "callWith ref" => (first | ((k_here; k_dflt (refine' Mine.callWith_B (by k_asm) (by k_mem) (by first | exact Or.inl rfl | exact Or.inr rfl) ?_))) | fail "no")
  k_with "call ref" => (first | ((k_here; k_dflt (first | (refine' Mine.call_len_K (by k_asm) (by k_mem) (by k_mem) ?_; intro t' tk') | (refine' Mine.call_pop_K (by k_asm) (by k_asm) (by k_asm) (by k_mem) (by k_upd) (by k_mem) (by exact rfl) (by rfl) (by k_is) (by k_is) (by walk_at "mylen") ?_; intro h' F' N')))) | fail "no")
  k_with "newsx" => (first | (first | (intro _; exact News.nil) | (intro nx; refine' Mine.News.one nx (by k_mem) (by walk_at "newsx"))) | fail "no")
  k_with "news" => (first | (first | assumption | (refine' Mine.News.one (by assumption) (by k_mem) (by walk_at "newsx")) | (refine News.perm (by assumption) ?_; simp; done) | (refine News.perm (by assumption) ?_; intro p hp; simp only [List.mem_cons, List.not_mem_nil, or_false] at hp ⊢; rcases hp with rfl | hp <;> simp_all)) | fail "no")
  k_with "kb" => (first | (exact Mine.KB.fin (by assumption) (by assumption)) | fail "no")
  k_with "splitne" => (first | ((repeat ((with_reducible rename Mine.NeA _ _ ∧ _ => kc'); (first | (refine Mine.sp16 kc' ?_; intro _ _ _ _ _ _ _ _ _ _ _ _ _ _ _ _ _) | (refine Mine.sp8 kc' ?_; intro _ _ _ _ _ _ _ _ _) | (refine Mine.sp4 kc' ?_; intro _ _ _ _ _) | (refine Mine.sp2 kc' ?_; intro _ _ _) | (refine Mine.sp1 kc' ?_; intro _ _)); clear kc'))) | fail "no")
  k_with "upds" => (first | (first | exact Mine.Upds.nil | (refine' Mine.Upds.cons (by k_upd) (by walk_at "upds"))) | fail "no")
  k_with "mylens" => (first | (assumption) | fail "no")
  k_with "call ref" => (first | ((k_here; k_dflt ((first | with_reducible show wpAny _ _ (call (Value.ref 217) _) _ _ _ | with_reducible show wpAny _ _ (call (Value.ref (nat_lit 217)) _) _ _ _); refine' Mine.part_count_K _ _ _ _ _ _ _ _ _ _ _ _ _ _ _ _ _ _ _ _ _ _ _ _ _ _ _ (by k_asm) (by k_asm) (by k_asm) (by k_asm) (by first | assumption | exact rfl) (by (dsimp only [ktrTop, Around.deeper]; omega)) (by (dsimp only [ktrTop, Around.deeper]; omega)) (by k_asm) (by k_mem) (by k_mem) ?_); intro h' tk' t' F' N')) | fail "no")
  k_with "call ref" => (first | ((k_here; k_dflt ((first | with_reducible show wpAny _ _ (call (Value.ref 187) _) _ _ _ | with_reducible show wpAny _ _ (call (Value.ref (nat_lit 187)) _) _ _ _); refine' Mine.len_K _ _ _ _ _ _ _ _ _ _ _ _ _ _ _ _ _ _ _ _ _ _ _ _ _ _ _ _ _ _ (by k_asm) (by k_asm) (by k_asm) (by k_asm) (by first | assumption | exact rfl) (by (dsimp only [ktrTop, Around.deeper]; omega)) (by (dsimp only [ktrTop, Around.deeper]; omega)) (by k_asm) (by k_mem) (by k_mem) (by (intro ps'; walk_at "upds")) (by assumption) (by walk_at "mytups") (by walk_at "mylens") (by walk_at "mylen") ?_); intro ps' h' gs' tk' t' F' N' hps' hAB' hlb'; (try dsimp only at N'); (try (refine Mine.len_back (by assumption) ?_)))) | fail "no")
  k_with "call ref" => (first | ((k_here; k_dflt ((first | with_reducible show wpAny _ _ (call (Value.ref 194) _) _ _ _ | with_reducible show wpAny _ _ (call (Value.ref (nat_lit 194)) _) _ _ _); refine' Mine.str_K _ _ _ _ _ _ _ _ _ _ _ _ _ _ _ _ _ _ _ _ _ _ _ _ _ _ _ _ _ _ (by k_asm) (by k_asm) (by k_asm) (by k_asm) (by first | assumption | exact rfl) (by (dsimp only [ktrTop, Around.deeper]; omega)) (by (dsimp only [ktrTop, Around.deeper]; omega)) (by k_asm) (by k_mem) (by k_mem) (by (intro ps'; walk_at "upds")) (by assumption) (by walk_at "mytups") (by walk_at "mylens") (by walk_at "mylen") ?_); intro ps' h' gs' tk' t' F' N' hps' hAB' hTk'; (try dsimp only at N'); (try dsimp only [W.StrBack]))) | fail "no")
  k_with "call ref" => (first | ((k_here; k_dflt ((first | with_reducible show wpAny _ _ (call (Value.ref 164) _) _ _ _ | with_reducible show wpAny _ _ (call (Value.ref (nat_lit 164)) _) _ _ _); refine' Mine.push_K _ _ _ _ _ _ _ _ _ _ _ _ _ _ _ _ _ _ _ _ _ _ _ _ _ _ _ _ _ _ _ _ (by k_asm) (by k_asm) (by k_asm) (by k_asm) (by first | assumption | exact rfl) (by (dsimp only [ktrTop, Around.deeper]; omega)) (by (dsimp only [ktrTop, Around.deeper]; omega)) (by k_asm) (by k_mem) (by (intro tp'; walk_at "upds")) (by walk_at "mylen") ?_); intro tp' h' tk' F' N' hne'; (try dsimp only at N'); (replace hne' := Mine.allNe_of hne'; dsimp only [Mine.AllNe] at hne'; walk_at "splitne"))) | fail "no")
  k_with "subscriptTail Name Slice ref ref" => (first | ((k_here; (with_reducible show wpAny _ _ (subscriptTail _ (PySem.Expr.Slice _ _ none _) (Value.ref _) (Value.ref _)) _ _ _); k_dflt (refine' Mine.slice_K (by k_asm) (by k_asm) (by k_asm) (by k_mem) (by k_mem) (by k_is) (by k_is) (by k_is) (by kmk_part) (by kmk_part) (by walk_at "mylen") (by first | exact Mine.pick_from (by assumption) | exact rfl) ?_ (by with_unfolding_all rfl) (by kmk_pure)); intro D' h' F' N' l1; (try k_lt l1))) | fail "no")
  k_with "setItem ref ref" => (first | ((k_here; k_dflt (refine' Mine.setitem_K (by k_asm) (by k_asm) (by k_asm) (by kmk_list) (by (intro n'; k_upd)) (by k_mem) (by k_is) (by k_is) (by k_is) (by kmk_part) (by kmk_part) (by walk_at "mylen") (by first | walk_at "mylen" | (simp; done)) (by first | exact Mine.set_from (by assumption) | exact Mine.set_all | exact rfl) ?_); intro n' h' F' N'; (try dsimp only at N'))) | fail "no")
  k_with "setAttr ref" => (first | ((k_here; k_dflt (refine' Mine.set_dictL (by k_asm) (by k_asm) (by k_asm) (by k_inst) (by exact rfl) (by k_is) (by exact Mine.mro220 _) (by k_is) (by k_is) (by k_get) (by k_put) (by k_upd) (by exact Nat.le_of_ble_eq_true rfl) ?_; k_whole; intro h' F' N'; (try k_sweep)))) | fail "no")
  k_with "wpAt" => (first | (((with_reducible show _root_.PySem.wpAt _ _ _ (execs (_ :: _) _) _ _ _); refine ks_wpAt_execs_cons ?_)) | fail "no")
  k_with "wpAt" => (first | ((ks_step "eval Call"; k_dflt (refine ks_wpAt_MethodCall ?_))) | fail "no")
  k_with "truthy ref" => (first | ((k_here; k_dflt (refine' Mine.truthy_lenL (by k_in) (by k_inst) (by k_is) (by k_is) (by k_is) ?_; k_whole))) | fail "no")
  k_with "Exists" => (first | ((refine ⟨_, _, rfl, ?_⟩)) | fail "no")
  k_with "units" => (first | (first | k_units | (dsimp only [ktrTop, Around.deeper, Around.in1]; omega) | (simp only [ktrTop, Around.deeper, Around.in1, Around.under]; omega)) | fail "no")
  k_with "call type:str" => (first | ((k_here; (with_reducible show wpAny _ _ (call (Value.type "str") [Value.ref _]) _ _ _); k_dflt (refine' kso_call (by walk_at "units") (by k_in) (by k_inst) (by k_is) (by k_is) ?_; k_whole))) | fail "no")
  k_with "mylen" => (first | (first | omega | (rw [PySem.sizeLine_eq]; omega) | (simp only [PySem.Str.length_append, PySem.sizeLine_eq]; omega)) | fail "no")
  k_with "call builtin:str.lower" => (first | ((k_here; (with_reducible show wpAny _ _ (call (Value.builtin "str.lower") [Value.str _ _]) _ _ _); (refine SCL.lower (by walk_at "mylen") ?_); intro _)) | fail "no")
  k_with "call builtin:str.split" => (first | ((k_here; (with_reducible show wpAny _ _ (call (Value.builtin "str.split") [Value.str _ _, Value.str _ _]) _ _ _); (refine Mine.split_free1 (by k_asm) (by k_asm) (by assumption) ?_ (by walk_at "mylen")); intro D' u' h' k' F' N' l1; (try k_lt l1))) | fail "no")
  trivial
theorem split_free1 {prog : Program} {w : World} {A : Around} {E : Value → Shared → Prop} {s : Shared} {h₀ : Heap} {L : Addr} {m : PySem.Str → Option Value} {news : List (Addr × Obj)} {x : PySem.Str} {t u : Tok} {Q : Value → Shared → Prop}
    (hF : Fr h₀ L s.heap m) (hN : News h₀ L s.heap news) (hx : 47 ∉ x.cps.toList)
    (h : ∀ D u' h' k, Fr h₀ L h' m → News h₀ L h' ((D, W.listOf #[.str x u'] 0) :: news) → (∀ p ∈ news, p.1 < D) → Q (.ref D) { s with heap := h', toks := k }) (hsz : x.length + 2 ≤ sizeLine) :
    wpAny (model prog w) A (call (.builtin "str.split") [.str x t, .str (Str.ofString "/") u]) Q E s := by
  refine KSpl.split1 hF hN (by decide) (fun D l h' k e _ F N hl => ?_) hsz
  rw [show Str.ofString "/" = (⟨#[47]⟩ : PySem.Str) from by decide +kernel, PS.split_none hx] at e
  obtain ⟨u', l', rfl, e'⟩ := KSpl.cons_of e
  have := KSpl.nil_of e'
  subst this
  exact h D u' h' k F N hl
def hit3 (a1 a2 a3 t : PySem.Str) : Bool := Txt.contains (Txt.lower t) (Txt.lower a1) || Txt.contains (Txt.lower t) (Txt.lower a2) || Txt.contains (Txt.lower t) (Txt.lower a3)
set_option maxHeartbeats 4000000 in
theorem applies_ok (w : World) {p : Program} {loose : List PySem.Str} {mean : ExcName → Option Value} {mg mb : PySem.Str → Option Value} (dp un : Nat) (gd : Option (List Code)) (cn : PySem.Str) (cs : Scope) (a : Addr) (ccd : Value) (cl : List (PySem.Str × Addr)) (outer : List Env) (A₀ : Around) (base h₀ : Heap) (L : Addr) (m : PySem.Str → Option Value) (s : Shared) (Q E : Value → Shared → Prop) (rec drec lst : Addr) (k1 k2 k3 k4 : Tok) (e1 e2 e3 e4 : Int) (v2 v3 v4 : Value) (n1 n2 : Nat) (t : PySem.Str) (tk : Tok) (a1 a2 a3 : PySem.Str) (t0 t1 t2 t3 : Tok)
    (B : Below A₀ base outer h₀) (F : Fr h₀ L s.heap m) (X : (Mine.hd.heap_1 w.params).In h₀) (T : Top p loose mean mg mb h₀) (hk : cs.kind = .function) (hd : dp + 2 < recursionLimit) (hu : un + 40 < cLine)
    (N : News h₀ L s.heap [(rec, instObj 59 drec), (drec, dictOf [⟨e1, .str (Str.ofString "useragents") k1, .ref lst⟩, ⟨e2, .str (Str.ofString "rulelines") k2, v2⟩, ⟨e3, .str (Str.ofString "delay") k3, v3⟩, ⟨e4, .str (Str.ofString "req_rate") k4, v4⟩] n1),
      (lst, W.listOf #[.str (Str.ofString "*") t0, .str a1 t1, .str a2 t2, .str a3 t3] n2)])
    (hne : NeA rec drec ∧ NeA rec lst ∧ NeA drec lst)
    (ht : t.length ≤ 1000) (ha1 : a1.length ≤ 1000) (ha2 : a2.length ≤ 1000) (ha3 : a3.length ≤ 1000) (hsl : 47 ∉ t.cps.toList)
    (hs1 : (a1 != Str.ofString "*") = true) (hs2 : (a2 != Str.ofString "*") = true) (hs3 : (a3 != Str.ofString "*") = true)
    (hret : ∀ b h' tk', b = hit3 a1 a2 a3 t → Fr h₀ L h' m → KB [(rec, instObj 59 drec), (drec, dictOf [⟨e1, .str (Str.ofString "useragents") k1, .ref lst⟩, ⟨e2, .str (Str.ofString "rulelines") k2, v2⟩, ⟨e3, .str (Str.ofString "delay") k3, v3⟩, ⟨e4, .str (Str.ofString "req_rate") k4, v4⟩] n1),
      (lst, W.listOf #[.str (Str.ofString "*") t0, .str a1 t1, .str a2 t2, .str a3 t3] n2)] s.heap h' → News h₀ L h' [(rec, instObj 59 drec), (drec, dictOf [⟨e1, .str (Str.ofString "useragents") k1, .ref lst⟩, ⟨e2, .str (Str.ofString "rulelines") k2, v2⟩, ⟨e3, .str (Str.ofString "delay") k3, v3⟩, ⟨e4, .str (Str.ofString "req_rate") k4, v4⟩] n1),
      (lst, W.listOf #[.str (Str.ofString "*") t0, .str a1 t1, .str a2 t2, .str a3 t3] n2)] → Q (.bool b) { s with heap := h', toks := tk' })
    : wpAny (model PySem.Challenge.rw_wn0105_01.row.prog w) (ktrTop dp un gd cn cs L a ccd cl outer) (call (.ref 49) [.ref rec, .str t tk]) Q E s := by
  obtain ⟨b1, b2, b3⟩ := hne
  revert X; k_fill; intro X
  refine wpAny_call ?_
  k_dflt walk_at "myenter"
  (rename Fr _ _ _ _ => kF')
  replace kF' : Fr _ _ _ (fun y => List.lookup y [(Str.ofString "useragent", Value.str t tk), (Str.ofString "self", Value.ref rec)]) := kF'
  k_steps
  all_goals (refine hret _ _ _ ?_ (by k_asm) (by walk_at "kb") (by walk_at "news"))
  all_goals (simp only [hit3, Txt.contains]; simp [*])
end Mine
end
section
open PySem PySem.W PyProof.Rows PySem.Calls PySem.Spec
set_option maxRecDepth 100000
namespace Mine
section
variable {prog : Program} {w : World} {A : Around} {E : Value → Shared → Prop} {s : Shared} {env : Env} {h₀ : Heap} {L : Addr} {m : PySem.Str → Option Value} {news news' : List (Addr × Obj)}
abbrev IsLI (o : Obj) (l : Addr) (i : Nat) : Prop := o.cls = .type "list_iterator" ∧ o.data = .fields #[.ref l, .int i 0]
theorem isList_news {h : Heap} {l : Addr} {vs : Array Value} {nl : Nat} (N : News h₀ L h news) (hm : (l, W.listOf vs nl) ∈ news) : h.IsList l vs := ⟨_, (N _ hm).1, rfl, _, rfl⟩
theorem pyIter_list_K {l : Addr} {vs : Array Value} {nl : Nat} {Q : Value → Shared → Prop} (F : Fr h₀ L s.heap m) (N : News h₀ L s.heap news) (hm : (l, W.listOf vs nl) ∈ news)
    (h : ∀ I o h', IsLI o l 0 → Fr h₀ L h' m → News h₀ L h' ((I, o) :: news) → (∀ p ∈ news, p.1 < I) → Q (.ref I) { s with heap := h' }) : wpAny (model prog w) A (pyIter (.ref l)) Q E s :=
  wpAny_pyIter_list (isList_news N hm) (h _ { cls := .type "list_iterator", data := .fields #[.ref l, .int 0 0] } _ ⟨rfl, rfl⟩ (F.push _) (News.push F N _) fun p hp => Heap.lt_size (N p hp).1)
theorem next_list_K {I l : Addr} {o : Obj} {vs : Array Value} {nl i : Nat} {v : Value} {news' : Obj → List (Addr × Obj)} {Q : Option Value → Shared → Prop} (F : Fr h₀ L s.heap m) (N : News h₀ L s.heap news) (ho : IsLI o l i) (U : ∀ o', Upd I o o' news (news' o')) (hm : (l, W.listOf vs nl) ∈ news) (hx : vs[i]? = some v)
    (h : ∀ o' h', IsLI o' l (i + 1) → Fr h₀ L h' m → News h₀ L h' (news' o') → Q (some v) { s with heap := h' }) : wpAny (model prog w) A (pyNext (.ref I)) Q E s := by
  have hI := upd_here (U o)
  have z := N _ hI
  refine wpAny_pyNext_list_item ⟨o, z.1, ho.1, ho.2⟩ (isList_news N hm) hx fun h' hit hs => ?_
  obtain ⟨o', e1, e2, e3⟩ := hit
  exact h o' h' ⟨e2, e3⟩ (F.change hs z.2.1 z.2.2) (news_after1 N (U o') (fun b y hb e => hs.extBut b y hb e) e1)
theorem end_list_K {I l : Addr} {o : Obj} {vs : Array Value} {nl i : Nat} {Q : Option Value → Shared → Prop} (hh : A.handled = none) (F : Fr h₀ L s.heap m) (N : News h₀ L s.heap news) (ho : IsLI o l i) (hI : (I, o) ∈ news) (hm : (l, W.listOf vs nl) ∈ news) (D : ∀ p ∈ news', p ∈ news ∧ p.1 ≠ I) (hx : vs[i]? = none)
    (h : ∀ h', Fr h₀ L h' m → News h₀ L h' news' → Q none { s with heap := h' }) : wpAny (model prog w) A (pyNext (.ref I)) Q E s := by
  have z := N _ hI
  refine wpAny_pyNext_list_end hh ⟨o, z.1, ho.1, ho.2⟩ (isList_news N hm) hx fun h' hs => h h' (fr_after1 F N hI (fun b y hb e => hs b y hb e)) fun p hp => ?_
  obtain ⟨h1, h2⟩ := D p hp
  exact ⟨hs _ _ h2 (N p h1).1, (N p h1).2⟩
theorem turns_ind {x : PySem.Str} {px : Pos} {body orelse : List Stmt} {it : Value} {Q : Flow → Shared → Prop} (Inv : Nat → Shared → Prop)
    (hz : ∀ s, Inv 0 s → wpAny (model prog w) A (pyNext it) (fun r s₁ => r = none ∧ wpAny (model prog w) A (execs orelse env) Q E s₁) E s)
    (hs : ∀ n s, Inv (n + 1) s → wpAny (model prog w) A (pyNext it) (fun r s₁ => ∃ v, r = some v ∧ wpAny (model prog w) A (assign (.Name x px) env v) (fun _ s₂ => wpAny (model prog w) A (execs body env) (fun f s₃ => match f with
      | .next | .cont => Inv n s₃
      | .brk => Q .next s₃
      | .ret v => Q (.ret v) s₃) E s₂) E s₁) E s) : ∀ n s, Inv n s → Turns prog w A E env x px body orelse it Q n s
  | 0, s, h => hz s h
  | n + 1, s, h => by
    refine wpAny_mono (hs n s h) (fun r s₁ h₁ => ?_) fun _ _ e => e
    obtain ⟨v, rfl, h₁⟩ := h₁
    refine ⟨v, rfl, wpAny_mono h₁ (fun _ s₂ h₂ => wpAny_mono h₂ (fun f s₃ h₃ => ?_) fun _ _ e => e) fun _ _ e => e⟩
    cases f with
    | next => exact turns_ind Inv hz hs n s₃ h₃
    | cont => exact turns_ind Inv hz hs n s₃ h₃
    | brk => exact h₃
    | ret v => exact h₃
end
/-- the items are tuples that stand in the ledger -/
def TupsIn (tups : List (Addr × Obj)) (its : Array Value) (ws : List PySem.Str) : Prop :=
  its.size = ws.length ∧ ∀ j (hj : j < ws.length), ∃ T tf tv, its[j]? = some (.ref T) ∧ (T, ({ cls := .type "tuple", data := .seq #[.str (Str.ofString " ") tf, .str ws[j] tv] } : Obj)) ∈ tups
theorem TupsIn.at {h₀ h : Heap} {L : Addr} {news tups : List (Addr × Obj)} {its : Array Value} {ws : List PySem.Str} (x : TupsIn tups its ws) (N : News h₀ L h news) (hs : ∀ p ∈ tups, p ∈ news) : TupsAt h its ws :=
  ⟨x.1, fun j hj => let ⟨T, tf, tv, e1, e2⟩ := x.2 j hj; ⟨T, tf, tv, e1, isTup_news N (hs _ e2)⟩⟩
theorem TupsIn.nil {tups : List (Addr × Obj)} : TupsIn tups #[] [] := ⟨rfl, fun j hj => absurd hj (Nat.not_lt_zero j)⟩
theorem TupsIn.push {tups : List (Addr × Obj)} {its : Array Value} {ws : List PySem.Str} {T : Addr} {tf tv : Tok} {v : PySem.Str} (x : TupsIn tups its ws) : TupsIn ((T, { cls := .type "tuple", data := .seq #[.str (Str.ofString " ") tf, .str v tv] }) :: tups) (its.push (.ref T)) (ws ++ [v]) := by
  refine ⟨by rw [Array.size_push, List.length_append, x.1]; rfl, fun j hj => ?_⟩
  by_cases hj' : j < ws.length
  · obtain ⟨T', tf', tv', e1, e2⟩ := x.2 j hj'
    refine ⟨T', tf', tv', ?_, ?_⟩
    · rw [Array.getElem?_push, if_neg (by have := x.1; omega)]; exact e1
    · rw [List.getElem_append_left hj']; exact .tail _ e2
  · have hj2 : j = ws.length := by simp at hj; omega
    subst hj2
    refine ⟨T, tf, tv, ?_, ?_⟩
    · rw [← x.1]; simp
    · rw [List.getElem_append_right (Nat.le_refl _)]
      simp
theorem TupsIn.sub {t t' : List (Addr × Obj)} {its : Array Value} {ws : List PySem.Str} (x : TupsIn t its ws) (h : ∀ p ∈ t, p ∈ t') : TupsIn t' its ws :=
  ⟨x.1, fun j hj => let ⟨T, tf, tv, e1, e2⟩ := x.2 j hj; ⟨T, tf, tv, e1, h _ e2⟩⟩
theorem off_tups {h₀ h : Heap} {L d : Addr} {o : Obj} {news tups : List (Addr × Obj)} (N : News h₀ L h news) (hs : ∀ p ∈ tups, p ∈ news) (hc : ∀ p ∈ tups, p.2.cls = .type "tuple") (hd : (d, o) ∈ news) (ho : o.cls ≠ .type "tuple") : ∀ p ∈ tups, p.1 ≠ d := fun p hp q => by
  have e1 := (N _ (hs p hp)).1
  rw [q, (N _ hd).1] at e1
  have e2 : o = p.2 := Option.some.inj e1
  exact ho (by rw [e2]; exact hc p hp)
end Mine
end
section
open PySem PySem.W PyProof.Rows PySem.Calls PySem.Spec
set_option maxRecDepth 100000
namespace Mine
abbrev dRec (lst : Addr) (k1 k2 k3 k4 : Tok) (e1 e2 e3 e4 : Int) (v2 v3 v4 : Value) (n1 : Nat) : Obj := dictOf [⟨e1, .str (Str.ofString "useragents") k1, .ref lst⟩, ⟨e2, .str (Str.ofString "rulelines") k2, v2⟩, ⟨e3, .str (Str.ofString "delay") k3, v3⟩, ⟨e4, .str (Str.ofString "req_rate") k4, v4⟩] n1
theorem applies_K (w : World) {p : Program} {loose : List PySem.Str} {mean : ExcName → Option Value} {mg mb : PySem.Str → Option Value} (dp un : Nat) (gd : Option (List Code)) (cn : PySem.Str) (cs : Scope) (a : Addr) (ccd : Value) (cl : List (PySem.Str × Addr)) (outer : List Env) (A₀ : Around) (base h₀ : Heap) (L : Addr) (m : PySem.Str → Option Value) (s : Shared) (Q E : Value → Shared → Prop) (rec drec lst : Addr) (k1 k2 k3 k4 : Tok) (e1 e2 e3 e4 : Int) (v2 v3 v4 : Value) (n1 n2 : Nat) (t : PySem.Str) (tk : Tok) (a1 a2 a3 : PySem.Str) (t0 t1 t2 t3 : Tok) (b : Bool) (news : List (Addr × Obj))
    (B : Below A₀ base outer h₀) (F : Fr h₀ L s.heap m) (X : (Mine.hd.heap_1 w.params).In h₀) (T : Top p loose mean mg mb h₀) (hk : cs.kind = .function) (hd : dp + 2 < recursionLimit) (hu : un + 40 < cLine)
    (N : News h₀ L s.heap news) (i1 : (rec, instObj 59 drec) ∈ news) (i2 : (drec, dictOf [⟨e1, .str (Str.ofString "useragents") k1, .ref lst⟩, ⟨e2, .str (Str.ofString "rulelines") k2, v2⟩, ⟨e3, .str (Str.ofString "delay") k3, v3⟩, ⟨e4, .str (Str.ofString "req_rate") k4, v4⟩] n1) ∈ news)
    (i3 : (lst, W.listOf #[.str (Str.ofString "*") t0, .str a1 t1, .str a2 t2, .str a3 t3] n2) ∈ news)
    (ht : t.length ≤ 1000) (ha1 : a1.length ≤ 1000) (ha2 : a2.length ≤ 1000) (ha3 : a3.length ≤ 1000) (hsl : 47 ∉ t.cps.toList)
    (hs1 : (a1 != Str.ofString "*") = true) (hs2 : (a2 != Str.ofString "*") = true) (hs3 : (a3 != Str.ofString "*") = true) (hbt : hit3 a1 a2 a3 t = b)
    (h : ∀ h' tk', Fr h₀ L h' m → News h₀ L h' news → Q (.bool b) { s with heap := h', toks := tk' })
    : wpAny (model PySem.Challenge.rw_wn0105_01.row.prog w) (ktrTop dp un gd cn cs L a ccd cl outer) (call (.ref 49) [.ref rec, .str t tk]) Q E s := by
  have N3 := News.three N i1 i2 i3
  have dl : ∀ a b c d, (dictOf c d).cls ≠ (W.listOf a b).cls := by intro a b c d hc; injection hc with hc; exact absurd hc (by decide)
  refine applies_ok w dp un gd cn cs a ccd cl outer A₀ base h₀ L m s Q E rec drec lst k1 k2 k3 k4 e1 e2 e3 e4 v2 v3 v4 n1 n2 t tk a1 a2 a3 t0 t1 t2 t3 B F X T hk hd hu N3 ⟨ne_obj N i1 i2 nofun, ne_obj N i1 i3 nofun, ne_obj N i2 i3 (dl _ _ _ _)⟩ ht ha1 ha2 ha3 hsl hs1 hs2 hs3 fun b h' tk' hb F' kb N' => ?_
  subst hb
  rw [hbt]
  exact h h' tk' F' (news_same N N3 kb N')
theorem append_N (w : World) {p : Program} {loose : List PySem.Str} {mean : ExcName → Option Value} {mg mb : PySem.Str → Option Value} (dp un : Nat) (gd : Option (List Code)) (cn : PySem.Str) (cs : Scope) (a : Addr) (ccd : Value) (cl : List (PySem.Str × Addr)) (outer : List Env) (A₀ : Around) (base h₀ : Heap) (L : Addr) (m : PySem.Str → Option Value) (s : Shared) (Q E : Value → Shared → Prop) (mk dmk ln x dx : Addr) (g1 g2 g3 g4 g5 g6 e1 mxl : Int) (m1 m2 m3 m4 m5 m6 m7 m8 m9 tW k1 t0 : Tok) (lns its : Array Value) (cn' n : Nat) (p2 p9 : Array Value) (ws : List PySem.Str) (v : PySem.Str) (tf tv : Tok) (news : List (Addr × Obj)) (news' : Addr → Nat → Nat → Tok → Tok → Array Value → Array Value → List (Addr × Obj))
    (B : Below A₀ base outer h₀) (F : Fr h₀ L s.heap m) (X : (Mine.hd.heap_1 w.params).In h₀) (T : Top p loose mean mg mb h₀) (hk : cs.kind = .function) (hd : dp + 10 < recursionLimit) (hu : un + 200 < cLine)
    (N : News h₀ L s.heap news) (i1 : (mk, instObj 136 dmk) ∈ news) (i2 : (dmk, dictOf [⟨g1, .str (Str.ofString "_maxlen") m1, .int mxl tW⟩, ⟨g2, .str (Str.ofString "_continuation_ws") m2, .str (Str.ofString " ") m3⟩, ⟨g3, .str (Str.ofString "_continuation_ws_len") m4, .int 1 m5⟩, ⟨g4, .str (Str.ofString "_splitchars") m6, .str (Str.ofString " ") m7⟩, ⟨g5, .str (Str.ofString "_lines") m8, .ref ln⟩, ⟨g6, .str (Str.ofString "_current_line") m9, .ref x⟩] 6) ∈ news) (i3 : (ln, W.listOf lns cn') ∈ news) (i4 : (x, accO dx its n) ∈ news) (i5 : (dx, dictOf [⟨e1, .str (Str.ofString "_initial_size") k1, .int 0 t0⟩] 1) ∈ news) (i6 : (182, tabObj p2) ∈ news) (i7 : (189, tabObj p9) ∈ news)
    (U : ∀ tp c' n' t' t1 p2' p9', Upds [(ln, W.listOf lns cn'), (x, accO dx its n), (dx, dictOf [⟨e1, .str (Str.ofString "_initial_size") k1, .int 0 t0⟩] 1), (182, tabObj p2), (189, tabObj p9)] [(ln, W.listOf (if cutB mxl ws v then lns.push (.str (txt ws) t1) else lns) c'), (x, accO dx (if cutB mxl ws v then #[.ref tp] else its.push (.ref tp)) n'), (dx, dictOf [⟨e1, .str (Str.ofString "_initial_size") k1, .int 0 t'⟩] 1), (182, tabObj p2'), (189, tabObj p9')] news (news' tp c' n' t' t1 p2' p9'))
    (hsz : its.size ≤ 800) (hsl : lns.size ≤ 900) (hp2 : psOk pos132 p2) (hp9 : psOk pos135 p9) (hT : TupsAt s.heap its ws)
    (hw : ∀ u ∈ ws, Wd u) (hv : Wd v)
    (h : ∀ tp c' n' t' t1 p2' p9' h' gs tk', Fr h₀ L h' m → News h₀ L h' ((tp, { cls := .type "tuple", data := .seq #[.str (Str.ofString " ") tf, .str v tv] }) :: news' tp c' n' t' t1 p2' p9') → psOk pos132 p2' → psOk pos135 p9' → (AllBare s.gens → AllBare gs) → Tk s.heap h' → (∀ p ∈ news, p.1 ≠ tp) → Q .none { s with heap := h', gens := gs, toks := tk' })
    : wpAny (model PySem.Challenge.rw_wn0105_01.row.prog w) (ktrTop dp un gd cn cs L a ccd cl outer) (call (.ref 133) [.ref mk, .str (Str.ofString " ") tf, .str v tv]) Q E s :=
  append_K w dp un gd cn cs a ccd cl outer A₀ base h₀ L m s Q E mk dmk ln x dx g1 g2 g3 g4 g5 g6 e1 mxl m1 m2 m3 m4 m5 m6 m7 m8 m9 tW k1 t0 lns its cn' n p2 p9 ws v tf tv news news' B F X T hk hd hu N i1 i2 i3 i4 i5 i6 i7 U hsz hsl hp2 hp9 hT
    (fun u hu => by
      rcases List.mem_append.mp hu with hu | hu
      · have := (hw u hu).len.2; omega
      · have := hv.len.2
        rw [List.mem_singleton.mp hu]; omega) h
theorem fin_K (w : World) {p : Program} {loose : List PySem.Str} {mean : ExcName → Option Value} {mg mb : PySem.Str → Option Value} (dp un : Nat) (gd : Option (List Code)) (cn : PySem.Str) (cs : Scope) (a : Addr) (ccd : Value) (cl : List (PySem.Str × Addr)) (outer : List Env) (A₀ : Around) (base h₀ : Heap) (L : Addr) (m : PySem.Str → Option Value) (s : Shared) (Q E : Value → Shared → Prop) (mk dmk ln x dx : Addr) (g1 g2 g3 g4 g5 g6 e1 mxl : Int) (m1 m2 m3 m4 m5 m6 m7 m8 m9 tW k1 t0 : Tok) (lns its : Array Value) (cn' n : Nat) (p2 p9 : Array Value) (ws lines : List PySem.Str) (tb : Tok) (news : List (Addr × Obj)) (news' : Array Value → Nat → Nat → Tok → Array Value → Array Value → List (Addr × Obj))
    (B : Below A₀ base outer h₀) (F : Fr h₀ L s.heap m) (X : (Mine.hd.heap_1 w.params).In h₀) (T : Top p loose mean mg mb h₀) (hk : cs.kind = .function) (hd : dp + 20 < recursionLimit) (hu : un + 300 < cLine)
    (N : News h₀ L s.heap news) (i1 : (mk, instObj 136 dmk) ∈ news) (i2 : (dmk, dictOf [⟨g1, .str (Str.ofString "_maxlen") m1, .int mxl tW⟩, ⟨g2, .str (Str.ofString "_continuation_ws") m2, .str (Str.ofString " ") m3⟩, ⟨g3, .str (Str.ofString "_continuation_ws_len") m4, .int 1 m5⟩, ⟨g4, .str (Str.ofString "_splitchars") m6, .str (Str.ofString " ") m7⟩, ⟨g5, .str (Str.ofString "_lines") m8, .ref ln⟩, ⟨g6, .str (Str.ofString "_current_line") m9, .ref x⟩] 6) ∈ news) (i3 : (ln, W.listOf lns cn') ∈ news) (i4 : (x, accO dx its n) ∈ news) (i5 : (dx, dictOf [⟨e1, .str (Str.ofString "_initial_size") k1, .int 0 t0⟩] 1) ∈ news) (i6 : (182, tabObj p2) ∈ news) (i7 : (189, tabObj p9) ∈ news)
    (U : ∀ lns' c' n' t' p2' p9', Upds [(ln, W.listOf lns cn'), (x, accO dx its n), (dx, dictOf [⟨e1, .str (Str.ofString "_initial_size") k1, .int 0 t0⟩] 1), (182, tabObj p2), (189, tabObj p9)] [(ln, W.listOf lns' c'), (x, accO dx #[] n'), (dx, dictOf [⟨e1, .str (Str.ofString "_initial_size") k1, .int 0 t'⟩] 1), (182, tabObj p2'), (189, tabObj p9')] news (news' lns' c' n' t' p2' p9'))
    (hsz : its.size ≤ 900) (hsl : lns.size ≤ 900) (hp2 : psOk pos132 p2) (hp9 : psOk pos135 p9) (hT : TupsAt s.heap its ws)
    (hw : ∀ u ∈ ws, Wd u) (hws : ws ≠ []) (hL : StrsAre lns.toList lines) (hJ : ((lines ++ [txt ws]).map (·.length)).sum + (lines ++ [txt ws]).length * (Str.ofString "|").length ≤ 16777216)
    (h : ∀ lns' c' n' t' t1 p2' p9' h' gs tk', Fr h₀ L h' m → News h₀ L h' (news' lns' c' n' t' p2' p9') → psOk pos132 p2' → psOk pos135 p9' → (AllBare s.gens → AllBare gs) → Q (.str (Txt.join (Str.ofString "|") (lines ++ [txt ws])) t1) { s with heap := h', gens := gs, toks := tk' })
    : wpAny (model PySem.Challenge.rw_wn0105_01.row.prog w) (ktrTop dp un gd cn cs L a ccd cl outer) (call (.ref 84) [.ref mk, .str (Str.ofString "|") tb]) Q E s := by
  have N7 : News h₀ L s.heap [(mk, instObj 136 dmk), (dmk, dictOf [⟨g1, .str (Str.ofString "_maxlen") m1, .int mxl tW⟩, ⟨g2, .str (Str.ofString "_continuation_ws") m2, .str (Str.ofString " ") m3⟩, ⟨g3, .str (Str.ofString "_continuation_ws_len") m4, .int 1 m5⟩, ⟨g4, .str (Str.ofString "_splitchars") m6, .str (Str.ofString " ") m7⟩, ⟨g5, .str (Str.ofString "_lines") m8, .ref ln⟩, ⟨g6, .str (Str.ofString "_current_line") m9, .ref x⟩] 6), (ln, W.listOf lns cn'), (x, accO dx its n), (dx, dictOf [⟨e1, .str (Str.ofString "_initial_size") k1, .int 0 t0⟩] 1), (182, tabObj p2), (189, tabObj p9)] :=
    newsAll N (by simp only [List.mem_cons, List.not_mem_nil, or_false, forall_eq_or_imp, forall_eq]; exact ⟨i1, i2, i3, i4, i5, i6, i7⟩)
  have dd : (dictOf [⟨g1, .str (Str.ofString "_maxlen") m1, .int mxl tW⟩, ⟨g2, .str (Str.ofString "_continuation_ws") m2, .str (Str.ofString " ") m3⟩, ⟨g3, .str (Str.ofString "_continuation_ws_len") m4, .int 1 m5⟩, ⟨g4, .str (Str.ofString "_splitchars") m6, .str (Str.ofString " ") m7⟩, ⟨g5, .str (Str.ofString "_lines") m8, .ref ln⟩, ⟨g6, .str (Str.ofString "_current_line") m9, .ref x⟩] 6 : Obj) ≠ dictOf [⟨e1, .str (Str.ofString "_initial_size") k1, .int 0 t0⟩] 1 := by intro e; simp [dictOf] at e
  have ld : ∀ a b c d, (W.listOf a b).cls ≠ (dictOf c d).cls := by intro a b c d hc; injection hc with hc; exact absurd hc (by decide)
  have dl : ∀ a b c d, (dictOf c d).cls ≠ (W.listOf a b).cls := by intro a b c d hc; injection hc with hc; exact absurd hc (by decide)
  refine fin_ok w dp un gd cn cs a ccd cl outer A₀ base h₀ L m s Q E mk dmk ln x dx g1 g2 g3 g4 g5 g6 e1 mxl m1 m2 m3 m4 m5 m6 m7 m8 m9 tW k1 t0 lns its cn' n p2 p9 ws lines tb B F X T hk hd hu N7
    ⟨ne_obj N i1 i2 nofun, ne_obj N i1 i3 nofun, ne_obj N i1 i4 nofun, ne_obj N i1 i5 nofun, ne_obj N i1 i6 nofun, ne_obj N i1 i7 nofun, ne_obj N i2 i3 (dl _ _ _ _), ne_obj N i2 i4 nofun, ne_obj2 N i2 i5 dd, ne_obj N i2 i6 nofun, ne_obj N i2 i7 nofun,
      ne_obj N i3 i4 nofun, ne_obj N i3 i5 (ld _ _ _ _), ne_obj N i3 i6 nofun, ne_obj N i3 i7 nofun, ne_obj N i4 i5 nofun, ne_obj N i4 i6 nofun, ne_obj N i4 i7 nofun, ne_obj N i5 i6 nofun, ne_obj N i5 i7 nofun⟩
    hsz hsl hp2 hp9 hT hw hws hL hJ fun lns' c' n' t' t1 p2' p9' h' gs tk' F' N' q2 q9 hb kb => h lns' c' n' t' t1 p2' p9' h' gs tk' F' (news_upds N N7 (U lns' c' n' t' p2' p9') kb N' (by simp) ?_) q2 q9 hb
  intro p hp hn
  simp only [List.mem_cons, List.not_mem_nil, or_false] at hp
  rcases hp with rfl | rfl | rfl | rfl | rfl | rfl | rfl
  · simp
  · simp
  all_goals exact absurd (by simp) hn
theorem mknew_K (w : World) {p : Program} {loose : List PySem.Str} {mean : ExcName → Option Value} {mg mb : PySem.Str → Option Value} (dp un : Nat) (gd : Option (List Code)) (cn : PySem.Str) (cs : Scope) (a : Addr) (ccd : Value) (cl : List (PySem.Str × Addr)) (outer : List Env) (A₀ : Around) (base h₀ : Heap) (L : Addr) (m : PySem.Str → Option Value) (s : Shared) (Q E : Value → Shared → Prop) (mxl : Int) (th tW m3 m7 : Tok) (news : List (Addr × Obj))
    (B : Below A₀ base outer h₀) (F : Fr h₀ L s.heap m) (X : (Mine.hd.heap_1 w.params).In h₀) (T : Top p loose mean mg mb h₀) (hk : cs.kind = .function) (hd : dp + 10 < recursionLimit) (hu : un + 200 < cLine)
    (N : News h₀ L s.heap news)
    (h : ∀ mk dmk ln x dx g1 g2 g3 g4 g5 g6 e1 m1 m2 m4 m5 m6 m8 m9 k1 t0 cn' n h' tk', Fr h₀ L h' m → News h₀ L h' ((mk, instObj 136 dmk) :: (dmk, dictOf [⟨g1, .str (Str.ofString "_maxlen") m1, .int mxl tW⟩, ⟨g2, .str (Str.ofString "_continuation_ws") m2, .str (Str.ofString " ") m3⟩, ⟨g3, .str (Str.ofString "_continuation_ws_len") m4, .int 1 m5⟩, ⟨g4, .str (Str.ofString "_splitchars") m6, .str (Str.ofString " ") m7⟩, ⟨g5, .str (Str.ofString "_lines") m8, .ref ln⟩, ⟨g6, .str (Str.ofString "_current_line") m9, .ref x⟩] 6) :: (ln, W.listOf #[] cn') :: (x, accO dx #[] n) :: (dx, dictOf [⟨e1, .str (Str.ofString "_initial_size") k1, .int 0 t0⟩] 1) :: news) → (∀ p ∈ news, p.1 ≠ mk) → (∀ p ∈ news, p.1 ≠ dmk) → (∀ p ∈ news, p.1 ≠ ln) → (∀ p ∈ news, p.1 ≠ x) → (∀ p ∈ news, p.1 ≠ dx) →
      (NeA mk dmk ∧ NeA mk ln ∧ NeA mk x ∧ NeA mk dx ∧ NeA dmk ln ∧ NeA dmk x ∧ NeA dmk dx ∧ NeA ln x ∧ NeA ln dx ∧ NeA x dx) → Q (.ref mk) { s with heap := h', toks := tk' })
    : wpAny (model PySem.Challenge.rw_wn0105_01.row.prog w) (ktrTop dp un gd cn cs L a ccd cl outer) (call (.ref 136) [.int 0 th, .int mxl tW, .str (Str.ofString " ") m3, .str (Str.ofString " ") m7]) Q E s := by
  have ld : ∀ a b c d, (W.listOf a b).cls ≠ (dictOf c d).cls := by intro a b c d hc; injection hc with hc; exact absurd hc (by decide)
  have dl : ∀ a b c d, (dictOf c d).cls ≠ (W.listOf a b).cls := by intro a b c d hc; injection hc with hc; exact absurd hc (by decide)
  refine mknew_ok w dp un gd cn cs a ccd cl outer A₀ base h₀ L m s Q E mxl th tW m3 m7 B F X T hk hd hu fun mk dmk ln x dx g1 g2 g3 g4 g5 g6 e1 m1 m2 m4 m5 m6 m8 m9 k1 t0 cn' n h' tk' F' N' kb f1 f2 f3 f4 f5 => ?_
  have dd : (dictOf [⟨g1, .str (Str.ofString "_maxlen") m1, .int mxl tW⟩, ⟨g2, .str (Str.ofString "_continuation_ws") m2, .str (Str.ofString " ") m3⟩, ⟨g3, .str (Str.ofString "_continuation_ws_len") m4, .int 1 m5⟩, ⟨g4, .str (Str.ofString "_splitchars") m6, .str (Str.ofString " ") m7⟩, ⟨g5, .str (Str.ofString "_lines") m8, .ref ln⟩, ⟨g6, .str (Str.ofString "_current_line") m9, .ref x⟩] 6 : Obj) ≠ dictOf [⟨e1, .str (Str.ofString "_initial_size") k1, .int 0 t0⟩] 1 := by intro e; simp [dictOf] at e
  refine h mk dmk ln x dx g1 g2 g3 g4 g5 g6 e1 m1 m2 m4 m5 m6 m8 m9 k1 t0 cn' n h' tk' F' (fun p hp => ?_) (ne_fresh N f1) (ne_fresh N f2) (ne_fresh N f3) (ne_fresh N f4) (ne_fresh N f5) ?_
  · rw [show ∀ (a b c d e : Addr × Obj), (a :: b :: c :: d :: e :: news) = [a, b, c, d, e] ++ news from fun _ _ _ _ _ => rfl] at hp
    rcases List.mem_append.mp hp with hp | hp
    · exact N' _ hp
    · exact ⟨kb _ _ (by simp) (N p hp).1, (N p hp).2⟩
  · refine ⟨ne_obj N' (.head _) (.tail _ (.head _)) nofun, ne_obj N' (.head _) (.tail _ (.tail _ (.head _))) nofun, ne_obj N' (.head _) (.tail _ (.tail _ (.tail _ (.head _)))) nofun, ne_obj N' (.head _) (.tail _ (.tail _ (.tail _ (.tail _ (.head _))))) nofun,
      ne_obj N' (.tail _ (.head _)) (.tail _ (.tail _ (.head _))) (dl _ _ _ _), ne_obj N' (.tail _ (.head _)) (.tail _ (.tail _ (.tail _ (.head _)))) nofun, ne_obj2 N' (.tail _ (.head _)) (.tail _ (.tail _ (.tail _ (.tail _ (.head _))))) dd,
      ne_obj N' (.tail _ (.tail _ (.head _))) (.tail _ (.tail _ (.tail _ (.head _)))) nofun, ne_obj N' (.tail _ (.tail _ (.head _))) (.tail _ (.tail _ (.tail _ (.tail _ (.head _))))) (ld _ _ _ _), ne_obj N' (.tail _ (.tail _ (.tail _ (.head _)))) (.tail _ (.tail _ (.tail _ (.tail _ (.head _))))) nofun⟩
end Mine
end
section
open PySem PySem.W PyProof.Rows PySem.Calls PySem.Spec
set_option maxRecDepth 100000
namespace Mine
local macro_rules | `(tactic| k_mem) => `(tactic| assumption)
local macro_rules | `(tactic| k_inst) => `(tactic| (refine' Mine.InstAt.ofAcc ?N ?h1 ?h2; (case N => k_asm); (case h1 => k_mem); (case h2 => k_mem)))
local macro_rules | `(tactic| k_ne) => `(tactic| (refine neN ?_; (try dsimp only); first | exact Mine.NeA.ne (by with_reducible assumption) | exact Mine.NeA.ne' (by with_reducible assumption) | omega))
local macro_rules | `(tactic| walk_at $s:str) => `(tactic| k_extra $s)
theorem words_C14 : True := by
  k_with_none
  w_top off
  k_with "myenter" => (first | ((refine' Mine.enterR (by k_asm) (by k_asm) (by k_asm) (by k_asm) (by k_asm) (by exact rfl) (by exact rfl) (by assumption) (by k_is) (by k_is) (by ktr_room) (by first | exact BindsTo.of_eq rfl | exact binds_K (by k_in) rfl (by k_is) rfl rfl rfl) (by exact locs rfl) ?_ (by exact rfl) (by exact rfl) (by exact rfl) (by decide); k_whole; intro g' L' h' hG' FG' F' N' B' X' T' l1; (try k_lt l1); (try dsimp only); (try k_lift B'); (try k_fold))) | fail "no")
  k_with "mylen" => (first | (first | omega | (simp only [PySem.Str.length_append, PySem.sizeLine_eq] at *; omega)) | fail "no")
  k_with "getMethod ref" => (first | ((k_here; k_dflt (first | refine' Mine.method_fnL (by k_in) (by k_inst) (by k_is) (by k_is) (by k_is) (by k_is) (by exact Mine.shadow_dict (by k_get)) ?_; k_whole | refine' Mine.method_biL (by k_in) (by k_inst) (by k_is) (by k_is) (by k_is) (by exact PySem.F.type_list_append) (by exact Mine.shadow_dict (by k_get)) ?_; k_whole))) | fail "no")
  k_with "call builtin:list.append" => (first | ((k_here; (with_reducible show wpAny _ _ (call (Value.builtin _) [Value.ref _, _]) _ _ _); k_dflt (refine' Mine.append_accL (by k_asm) (by k_asm) (by k_asm) (by k_upd) (by k_mem) (by k_is) ?_ (by walk_at "mylen"); k_whole); intro h' F' N'; (try k_sweep))) | fail "no")
  k_with "getAttr ref" => (first | ((k_here; k_dflt (refine' Mine.get_ownL' (by k_asm) (by k_asm) (by k_inst) (by k_is) (by k_is) (by k_is) (by k_is) (by k_is) (by k_is) (by k_get) (by k_handed) ?_; k_whole))) | fail "no")
  k_with "mytups" => (first | (first | assumption | exact Mine.TupsAt.keeps (by assumption) (fun b o e _ => Fr.keep (by k_asm) b o e)) | fail "no")
  k_with "eval GeneratorExp" => (first | ((k_here; k_dflt (first | ((with_reducible show wpAny _ _ (eval (Expr.GeneratorExp (Expr.BinOp _ _ _ _) _ _ _) _) _ _ _); refine' Mine.gen_len_K (by k_asm) (by k_asm) (by k_asm) (by k_asm) (by exact rfl) (by exact rfl) (by exact rfl) (by exact rfl) (by exact rfl) (by ktr_room) (by k_mem) (by k_mem) (by (intro ps'; k_upd)) (by assumption) (by walk_at "mytups") (by assumption) ?_) | ((with_reducible show wpAny _ _ (eval (Expr.GeneratorExp (Expr.Call _ _ _ _) _ _ _) _) _ _ _); refine' Mine.gen_join_K (by exact rfl) (by k_asm) (by k_asm) (by k_asm) (by k_asm) (by exact rfl) (by exact rfl) (by exact rfl) (by exact rfl) (by exact rfl) (by ktr_room) (by k_mem) (by k_mem) (by (intro ps'; k_upd)) (by assumption) (by walk_at "mytups") (by assumption) ?_)); intro a' ps' h' gs' tk' lo' F' N' hps' hAB' hlo' hlo2' G'; (try dsimp only at N'))) | fail "no")
  k_with "call builtin:sum" => (first | ((k_here; k_dflt (refine' Mine.sum_len_K (by k_asm) (by k_asm) (by refine Mine.Gen.toks (by assumption) ?_; first | exact Nat.le_succ _ | exact Nat.le_refl _) (by exact (Mine.TupsAt.size (by assumption)).symm) (by assumption) (by assumption) ?_); intro h' gs' tk' t' F' N' hAB' hK')) | fail "no")
  k_with "call builtin:str.join" => (first | ((k_here; (with_reducible show wpAny _ _ (call (Value.builtin _) [Value.str _ _, Value.ref _]) _ _ _); k_dflt (refine' Mine.join_str_K (by k_asm) (by k_asm) (by refine Mine.Gen.toks (by assumption) ?_; first | exact Nat.le_succ _ | exact Nat.le_refl _) (by exact (Mine.TupsAt.size (by assumption)).symm) (by assumption) (by assumption) (by assumption) (by assumption) ?_); intro h' gs' tk' t' F' N' hAB' hK')) | fail "no")
  k_with "ksenter" => (first | ((refine' Mine.ks_codeR (by k_asm) (by k_asm) (by k_asm) (by k_asm) (by k_asm) (by exact rfl) (by exact rfl) (by assumption) (by k_is) (by k_is) (by ktr_room) (by first | exact BindsTo.of_eq rfl | exact binds_K (by k_in) rfl (by k_is) rfl rfl rfl) (by exact locs rfl) ?_ (by decide) (by exact rfl) (by exact rfl) (by exact rfl); intro g' L' h' hG' FG' F' N' B' X' T' l1; (try k_lt l1); (try dsimp only); (try k_lift B'); (try k_fold))) | fail "no")
  k_with "getMethod ref" => (first | ((k_here; k_dflt (refine' Mine.meth_len_K (by k_asm) (by k_asm) (by k_asm) (by k_mem) (by k_inst) (by k_is) (by k_is) (by ks_is) (by decide) (by first | exact Mine.ty_len | exact Mine.ty_pop | exact Mine.ty_init) (by first | exact Or.inl ⟨rfl, rfl⟩ | exact Or.inr ⟨rfl, rfl⟩) (by first | exact Mine.nc_len | exact Mine.nc_pop | exact Mine.nc_init) (by decide +kernel) ?_; intro q' h' F' N' l1; (try k_lt l1)))) | fail "no")
  k_with "callWith ref" => (first | ((k_here; k_dflt (refine' Mine.callWith_B (by k_asm) (by k_mem) (by first | exact Or.inl rfl | exact Or.inr rfl) ?_))) | fail "no")
  k_with "call ref" => (first | ((k_here; k_dflt (first | (refine' Mine.call_len_K (by k_asm) (by k_mem) (by k_mem) ?_; intro t' tk') | (refine' Mine.call_pop_K (by k_asm) (by k_asm) (by k_asm) (by k_mem) (by k_upd) (by k_mem) (by exact rfl) (by rfl) (by k_is) (by k_is) (by walk_at "mylen") ?_; intro h' F' N')))) | fail "no")
  k_with "newsx" => (first | (first | (intro _; exact News.nil) | (intro nx; refine' Mine.News.one nx (by k_mem) (by walk_at "newsx"))) | fail "no")
  k_with "news" => (first | (first | assumption | (refine' Mine.News.one (by assumption) (by k_mem) (by walk_at "newsx")) | (refine News.perm (by assumption) ?_; simp; done) | (refine News.perm (by assumption) ?_; intro p hp; simp only [List.mem_cons, List.not_mem_nil, or_false] at hp ⊢; rcases hp with rfl | hp <;> simp_all)) | fail "no")
  k_with "kb" => (first | (exact Mine.KB.fin (by assumption) (by assumption)) | fail "no")
  k_with "splitne" => (first | ((repeat ((with_reducible rename Mine.NeA _ _ ∧ _ => kc'); (first | (refine Mine.sp16 kc' ?_; intro _ _ _ _ _ _ _ _ _ _ _ _ _ _ _ _ _) | (refine Mine.sp8 kc' ?_; intro _ _ _ _ _ _ _ _ _) | (refine Mine.sp4 kc' ?_; intro _ _ _ _ _) | (refine Mine.sp2 kc' ?_; intro _ _ _) | (refine Mine.sp1 kc' ?_; intro _ _)); clear kc'))) | fail "no")
  k_with "upds" => (first | (first | exact Mine.Upds.nil | (refine' Mine.Upds.cons (by k_upd) (by walk_at "upds"))) | fail "no")
  k_with "mylens" => (first | (assumption) | fail "no")
  k_with "call ref" => (first | ((k_here; k_dflt ((first | with_reducible show wpAny _ _ (call (Value.ref 217) _) _ _ _ | with_reducible show wpAny _ _ (call (Value.ref (nat_lit 217)) _) _ _ _); refine' Mine.part_count_K _ _ _ _ _ _ _ _ _ _ _ _ _ _ _ _ _ _ _ _ _ _ _ _ _ _ _ (by k_asm) (by k_asm) (by k_asm) (by k_asm) (by first | assumption | exact rfl) (by (dsimp only [ktrTop, Around.deeper]; omega)) (by (dsimp only [ktrTop, Around.deeper]; omega)) (by k_asm) (by k_mem) (by k_mem) ?_); intro h' tk' t' F' N')) | fail "no")
  k_with "call ref" => (first | ((k_here; k_dflt ((first | with_reducible show wpAny _ _ (call (Value.ref 187) _) _ _ _ | with_reducible show wpAny _ _ (call (Value.ref (nat_lit 187)) _) _ _ _); refine' Mine.len_K _ _ _ _ _ _ _ _ _ _ _ _ _ _ _ _ _ _ _ _ _ _ _ _ _ _ _ _ _ _ (by k_asm) (by k_asm) (by k_asm) (by k_asm) (by first | assumption | exact rfl) (by (dsimp only [ktrTop, Around.deeper]; omega)) (by (dsimp only [ktrTop, Around.deeper]; omega)) (by k_asm) (by k_mem) (by k_mem) (by (intro ps'; walk_at "upds")) (by assumption) (by walk_at "mytups") (by walk_at "mylens") (by walk_at "mylen") ?_); intro ps' h' gs' tk' t' F' N' hps' hAB' hlb'; (try dsimp only at N'); (try (refine Mine.len_back (by assumption) ?_)))) | fail "no")
  k_with "call ref" => (first | ((k_here; k_dflt ((first | with_reducible show wpAny _ _ (call (Value.ref 194) _) _ _ _ | with_reducible show wpAny _ _ (call (Value.ref (nat_lit 194)) _) _ _ _); refine' Mine.str_K _ _ _ _ _ _ _ _ _ _ _ _ _ _ _ _ _ _ _ _ _ _ _ _ _ _ _ _ _ _ (by k_asm) (by k_asm) (by k_asm) (by k_asm) (by first | assumption | exact rfl) (by (dsimp only [ktrTop, Around.deeper]; omega)) (by (dsimp only [ktrTop, Around.deeper]; omega)) (by k_asm) (by k_mem) (by k_mem) (by (intro ps'; walk_at "upds")) (by assumption) (by walk_at "mytups") (by walk_at "mylens") (by walk_at "mylen") ?_); intro ps' h' gs' tk' t' F' N' hps' hAB' hTk'; (try dsimp only at N'); (try dsimp only [W.StrBack]))) | fail "no")
  k_with "call ref" => (first | ((k_here; k_dflt ((first | with_reducible show wpAny _ _ (call (Value.ref 164) _) _ _ _ | with_reducible show wpAny _ _ (call (Value.ref (nat_lit 164)) _) _ _ _); refine' Mine.push_K _ _ _ _ _ _ _ _ _ _ _ _ _ _ _ _ _ _ _ _ _ _ _ _ _ _ _ _ _ _ _ _ (by k_asm) (by k_asm) (by k_asm) (by k_asm) (by first | assumption | exact rfl) (by (dsimp only [ktrTop, Around.deeper]; omega)) (by (dsimp only [ktrTop, Around.deeper]; omega)) (by k_asm) (by k_mem) (by (intro tp'; walk_at "upds")) (by walk_at "mylen") ?_); intro tp' h' tk' F' N' hne'; (try dsimp only at N'); (replace hne' := Mine.allNe_of hne'; dsimp only [Mine.AllNe] at hne'; walk_at "splitne"))) | fail "no")
  k_with "subscriptTail Name Slice ref ref" => (first | ((k_here; (with_reducible show wpAny _ _ (subscriptTail _ (PySem.Expr.Slice _ _ none _) (Value.ref _) (Value.ref _)) _ _ _); k_dflt (refine' Mine.slice_K (by k_asm) (by k_asm) (by k_asm) (by k_mem) (by k_mem) (by k_is) (by k_is) (by k_is) (by kmk_part) (by kmk_part) (by walk_at "mylen") (by first | exact Mine.pick_from (by assumption) | exact rfl) ?_ (by with_unfolding_all rfl) (by kmk_pure)); intro D' h' F' N' l1; (try k_lt l1))) | fail "no")
  k_with "setItem ref ref" => (first | ((k_here; k_dflt (refine' Mine.setitem_K (by k_asm) (by k_asm) (by k_asm) (by kmk_list) (by (intro n'; k_upd)) (by k_mem) (by k_is) (by k_is) (by k_is) (by kmk_part) (by kmk_part) (by walk_at "mylen") (by first | walk_at "mylen" | (simp; done)) (by first | exact Mine.set_from (by assumption) | exact Mine.set_all | exact rfl) ?_); intro n' h' F' N'; (try dsimp only at N'))) | fail "no")
  k_with "setAttr ref" => (first | ((k_here; k_dflt (refine' Mine.set_dictL (by k_asm) (by k_asm) (by k_asm) (by k_inst) (by exact rfl) (by k_is) (by exact Mine.mro220 _) (by k_is) (by k_is) (by k_get) (by k_put) (by k_upd) (by exact Nat.le_of_ble_eq_true rfl) ?_; k_whole; intro h' F' N'; (try k_sweep)))) | fail "no")
  k_with "wpAt" => (first | (((with_reducible show _root_.PySem.wpAt _ _ _ (execs (_ :: _) _) _ _ _); refine ks_wpAt_execs_cons ?_)) | fail "no")
  k_with "wpAt" => (first | ((ks_step "eval Call"; k_dflt (refine ks_wpAt_MethodCall ?_))) | fail "no")
  k_with "truthy ref" => (first | ((k_here; k_dflt (refine' Mine.truthy_lenL (by k_in) (by k_inst) (by k_is) (by k_is) (by k_is) ?_; k_whole))) | fail "no")
  k_with "Exists" => (first | ((refine ⟨_, _, rfl, ?_⟩)) | fail "no")
  k_with "units" => (first | (first | k_units | (dsimp only [ktrTop, Around.deeper, Around.in1]; omega) | (simp only [ktrTop, Around.deeper, Around.in1, Around.under]; omega)) | fail "no")
  k_with "call type:str" => (first | ((k_here; (with_reducible show wpAny _ _ (call (Value.type "str") [Value.ref _]) _ _ _); k_dflt (refine' kso_call (by walk_at "units") (by k_in) (by k_inst) (by k_is) (by k_is) ?_; k_whole))) | fail "no")
  k_with "call ref" => (first | ((k_here; k_dflt ((first | with_reducible show wpAny _ _ (call (Value.ref 220) _) _ _ _ | with_reducible show wpAny _ _ (call (Value.ref (nat_lit 220)) _) _ _ _); refine' Mine.accnew_K _ _ _ _ _ _ _ _ _ _ _ _ _ _ _ _ _ _ _ _ (by k_asm) (by k_asm) (by k_asm) (by k_asm) (by first | assumption | exact rfl) (by ktr_room) (by walk_at "myunits") (by k_asm) ?_); intro x' dx' e1' k1' n' t' h' tk' F' N' hne' hne2' hne3'; (try dsimp only at N'); (replace hne' := Mine.allNe_of hne'; dsimp only [Mine.AllNe] at hne'; walk_at "splitne"); (replace hne2' := Mine.allNe_of hne2'; dsimp only [Mine.AllNe] at hne2'; walk_at "splitne"))) | fail "no")
  k_with "myunits" => (first | (first | (dsimp only [ktrTop, Around.deeper]; omega) | ((try simp only [Mine.units_under, Around.deeper_units, Around.in1_units]); (try dsimp only [ktrTop]); omega) | (simp only [ktrTop, Around.deeper, Around.in1, Around.under]; omega)) | fail "no")
  trivial
set_option maxHeartbeats 4000000 in
theorem entnew_ok (w : World) {p : Program} {loose : List PySem.Str} {mean : ExcName → Option Value} {mg mb : PySem.Str → Option Value} (dp un : Nat) (gd : Option (List Code)) (cn : PySem.Str) (cs : Scope) (a : Addr) (ccd : Value) (cl : List (PySem.Str × Addr)) (outer : List Env) (A₀ : Around) (base h₀ : Heap) (L : Addr) (m : PySem.Str → Option Value) (s : Shared) (Q E : Value → Shared → Prop)
    (B : Below A₀ base outer h₀) (F : Fr h₀ L s.heap m) (X : (Mine.hd.heap_1 w.params).In h₀) (T : Top p loose mean mg mb h₀) (hk : cs.kind = .function) (hd : dp + 10 < recursionLimit) (hu : un + 200 < cLine)
    (hret : ∀ rec drec lst k1 k2 k3 k4 e1 e2 e3 e4 v2 n2 h' tk', Fr h₀ L h' m → News h₀ L h' [(rec, instObj 59 drec), (drec, dRec lst k1 k2 k3 k4 e1 e2 e3 e4 v2 .none .none 4), (lst, W.listOf #[] n2)] → KB [] s.heap h' → s.heap.get? rec = none → s.heap.get? drec = none → s.heap.get? lst = none → Q (.ref rec) { s with heap := h', toks := tk' })
    : wpAny (model PySem.Challenge.rw_wn0105_01.row.prog w) (ktrTop dp un gd cn cs L a ccd cl outer) (call (.ref 59) []) Q E s := by
  revert X; k_fill; intro X
  refine call_clsR F X (News.nil (h₀ := h₀) (L := L)) (by k_dflt k_is) (by k_dflt k_is) (by k_dflt k_is) ?_
  intro mk dmk h1 F1 N1 l2 hk hfx hfd
  k_lt2 l2
  k_dflt walk_at "myenter"
  have hG0 : KB [] s.heap _ := kb_made (by assumption) hk (by intro p hp; simp only [List.mem_cons, List.not_mem_nil, or_false] at hp; rcases hp with rfl | rfl; exact hfx; exact hfd)
  (rename Fr _ _ _ _ => kF')
  replace kF' : Fr _ _ _ (fun y => List.lookup y [(Str.ofString "self", Value.ref mk)]) := kF'
  k_steps
  exact hret _ _ _ _ _ _ _ _ _ _ _ _ _ _ _ (by k_asm) (by walk_at "news") (by walk_at "kb") hfx hfd (Mine.fresh_in (by assumption) (by assumption) (by k_mem) (by k_all))
theorem entnew_K (w : World) {p : Program} {loose : List PySem.Str} {mean : ExcName → Option Value} {mg mb : PySem.Str → Option Value} (dp un : Nat) (gd : Option (List Code)) (cn : PySem.Str) (cs : Scope) (a : Addr) (ccd : Value) (cl : List (PySem.Str × Addr)) (outer : List Env) (A₀ : Around) (base h₀ : Heap) (L : Addr) (m : PySem.Str → Option Value) (s : Shared) (Q E : Value → Shared → Prop) (news : List (Addr × Obj))
    (B : Below A₀ base outer h₀) (F : Fr h₀ L s.heap m) (X : (Mine.hd.heap_1 w.params).In h₀) (T : Top p loose mean mg mb h₀) (hk : cs.kind = .function) (hd : dp + 10 < recursionLimit) (hu : un + 200 < cLine)
    (N : News h₀ L s.heap news)
    (h : ∀ rec drec lst k1 k2 k3 k4 e1 e2 e3 e4 v2 n2 h' tk', Fr h₀ L h' m → News h₀ L h' ((rec, instObj 59 drec) :: (drec, dictOf [⟨e1, .str (Str.ofString "useragents") k1, .ref lst⟩, ⟨e2, .str (Str.ofString "rulelines") k2, v2⟩, ⟨e3, .str (Str.ofString "delay") k3, .none⟩, ⟨e4, .str (Str.ofString "req_rate") k4, .none⟩] 4) :: (lst, W.listOf #[] n2) :: news) → (∀ p ∈ news, p.1 ≠ rec) → (∀ p ∈ news, p.1 ≠ drec) → (∀ p ∈ news, p.1 ≠ lst) →
      (NeA rec drec ∧ NeA rec lst ∧ NeA drec lst) → Q (.ref rec) { s with heap := h', toks := tk' })
    : wpAny (model PySem.Challenge.rw_wn0105_01.row.prog w) (ktrTop dp un gd cn cs L a ccd cl outer) (call (.ref 59) []) Q E s := by
  have dl : ∀ a b c d, (dictOf c d).cls ≠ (W.listOf a b).cls := by intro a b c d hc; injection hc with hc; exact absurd hc (by decide)
  refine entnew_ok w dp un gd cn cs a ccd cl outer A₀ base h₀ L m s Q E B F X T hk hd hu fun rec drec lst k1 k2 k3 k4 e1 e2 e3 e4 v2 n2 h' tk' F' N' kb f1 f2 f3 => ?_
  refine h rec drec lst k1 k2 k3 k4 e1 e2 e3 e4 v2 n2 h' tk' F' (fun p hp => ?_) (ne_fresh N f1) (ne_fresh N f2) (ne_fresh N f3) ?_
  · rcases List.mem_append.mp (show p ∈ [_, _, _] ++ news from hp) with hp | hp
    · exact N' _ hp
    · exact ⟨kb _ _ (by simp) (N p hp).1, (N p hp).2⟩
  · exact ⟨ne_obj N' (.head _) (.tail _ (.head _)) nofun, ne_obj N' (.head _) (.tail _ (.tail _ (.head _))) nofun, ne_obj N' (.tail _ (.head _)) (.tail _ (.tail _ (.head _))) (dl _ _ _ _)⟩
end Mine
end
section
open PySem PySem.W PyProof.Rows PySem.Calls PySem.Spec
set_option maxRecDepth 100000
namespace Mine
/-- what the cutting of rows makes of one more word: the rows told, the open row -/
def stepF (mxl : Int) (a1 a2 a3 : PySem.Str) (st : List PySem.Str × List PySem.Str) (v : PySem.Str) : List PySem.Str × List PySem.Str :=
  let st1 := if hit3 a1 a2 a3 (txt st.2 ++ Str.ofString " " ++ v) then (st.1 ++ [txt st.2], []) else st
  if cutB mxl st1.2 v then (st1.1 ++ [txt st1.2], [v]) else (st1.1, st1.2 ++ [v])
def foldS (mxl : Int) (a1 a2 a3 : PySem.Str) (words : List PySem.Str) : List PySem.Str × List PySem.Str := words.foldl (stepF mxl a1 a2 a3) ([], [])
theorem foldS_snoc (mxl : Int) (a1 a2 a3 : PySem.Str) (l : List PySem.Str) (v : PySem.Str) : foldS mxl a1 a2 a3 (l ++ [v]) = stepF mxl a1 a2 a3 (foldS mxl a1 a2 a3 l) v := by
  unfold foldS; rw [List.foldl_append]; rfl
theorem stepF_len {mxl : Int} {a1 a2 a3 : PySem.Str} {st : List PySem.Str × List PySem.Str} {v : PySem.Str} (hs : hit3 a1 a2 a3 (txt [v]) = false) : (stepF mxl a1 a2 a3 st v).1.length + (stepF mxl a1 a2 a3 st v).2.length ≤ st.1.length + st.2.length + 1 := by
  obtain ⟨l, w⟩ := st
  unfold stepF
  cases w with
  | nil =>
    have e : hit3 a1 a2 a3 (txt [] ++ Str.ofString " " ++ v) = false := by rw [← txt_snoc]; exact hs
    simp [e, cutB]
  | cons a r =>
    dsimp only
    by_cases hh : hit3 a1 a2 a3 (txt (a :: r) ++ Str.ofString " " ++ v) = true
    · rw [if_pos hh]
      have e : cutB mxl [] v = false := rfl
      dsimp only
      rw [e, if_neg (by decide)]
      simp only [List.length_append, List.length_cons, List.length_nil]; omega
    · rw [if_neg hh]
      dsimp only
      split <;> simp only [List.length_append, List.length_cons, List.length_nil] <;> omega
theorem stepF_mem {mxl : Int} {a1 a2 a3 : PySem.Str} {st : List PySem.Str × List PySem.Str} {v u : PySem.Str} (h : u ∈ (stepF mxl a1 a2 a3 st v).2) : u ∈ st.2 ∨ u = v := by
  obtain ⟨l, w⟩ := st
  unfold stepF at h
  dsimp only at h
  split at h <;> split at h <;> simp at h <;> first | exact .inr h | exact h
theorem rev_ind {α : Type} {P : List α → Prop} (h0 : P []) (h1 : ∀ l a, P l → P (l ++ [a])) (l : List α) : P l := by
  have : ∀ l : List α, P l.reverse := by
    intro l
    induction l with
    | nil => exact h0
    | cons a r ih => rw [List.reverse_cons]; exact h1 _ _ ih
  simpa using this l.reverse
theorem foldS_len {mxl : Int} {a1 a2 a3 : PySem.Str} : ∀ {l : List PySem.Str}, (∀ v ∈ l, hit3 a1 a2 a3 (txt [v]) = false) → (foldS mxl a1 a2 a3 l).1.length + (foldS mxl a1 a2 a3 l).2.length ≤ l.length := by
  intro l
  refine rev_ind (P := fun l => (∀ v ∈ l, hit3 a1 a2 a3 (txt [v]) = false) → (foldS mxl a1 a2 a3 l).1.length + (foldS mxl a1 a2 a3 l).2.length ≤ l.length) ?_ ?_ l
  · intro _; simp [foldS]
  · intro l v ih h
    rw [foldS_snoc, List.length_append]
    have h1 := ih fun u hu => h u (List.mem_append_left _ hu)
    have h2 := stepF_len (mxl := mxl) (st := foldS mxl a1 a2 a3 l) (h v (by simp))
    simp only [List.length_cons, List.length_nil]
    omega
theorem foldS_mem {mxl : Int} {a1 a2 a3 : PySem.Str} : ∀ {l : List PySem.Str} {u : PySem.Str}, u ∈ (foldS mxl a1 a2 a3 l).2 → u ∈ l := by
  intro l
  refine rev_ind (P := fun l => ∀ {u : PySem.Str}, u ∈ (foldS mxl a1 a2 a3 l).2 → u ∈ l) ?_ ?_ l
  · intro u h; simp [foldS] at h
  · intro l v ih u h
    rw [foldS_snoc] at h
    rcases stepF_mem h with h | rfl
    · exact List.mem_append_left _ (ih h)
    · simp
theorem foldS_ne {mxl : Int} {a1 a2 a3 : PySem.Str} {l : List PySem.Str} (h : l ≠ []) : (foldS mxl a1 a2 a3 l).2 ≠ [] := by
  obtain ⟨l0, v, rfl⟩ : ∃ l0 v, l = l0 ++ [v] := ⟨l.dropLast, l.getLast h, (List.dropLast_concat_getLast h).symm⟩
  rw [foldS_snoc]
  unfold stepF
  dsimp only
  split <;> split <;> simp
theorem strs_get {vs : List Value} {ys : List PySem.Str} (h : StrsAre vs ys) : ∀ i (hi : i < ys.length), ∃ t, vs[i]? = some (.str ys[i] t) := by
  induction h with
  | nil => intro i hi; exact absurd hi (Nat.not_lt_zero _)
  | cons y t _ ih =>
    intro i hi
    cases i with
    | zero => exact ⟨t, rfl⟩
    | succ i =>
      obtain ⟨t', e⟩ := ih i (by simpa using hi)
      exact ⟨t', by simpa using e⟩
section
variable {g : Heap} {L : Addr}
abbrev fFold (mk rec al wl : Addr) (mxl : Int) (tw : Tok) (y : PySem.Str) : Option Value :=
  if y = Str.ofString "maker" then some (Value.ref mk) else if y = Str.ofString "record" then some (Value.ref rec) else List.lookup y [(Str.ofString "width", Value.int mxl tw), (Str.ofString "agents", Value.ref al), (Str.ofString "words", Value.ref wl)]
theorem fr_two {h : Heap} {a b : PySem.Str} {r : PySem.Str → Option Value} (F : Fr g L h r) : Fr g L h (fun y => if y = a then r a else if y = b then r b else r y) := by
  have e : (fun y => if y = a then r a else if y = b then r b else r y) = r := by
    funext y
    by_cases h1 : y = a
    · rw [if_pos h1, h1]
    · rw [if_neg h1]
      by_cases h2 : y = b
      · rw [if_pos h2, h2]
      · rw [if_neg h2]
  rw [e]; exact F
theorem fr_norm {h : Heap} {a b : PySem.Str} {p q va vb : Option Value} {r : PySem.Str → Option Value} (F : Fr g L h (fun y => if y = a then p else if y = b then q else if y = a then va else if y = b then vb else r y)) : Fr g L h (fun y => if y = a then p else if y = b then q else r y) := by
  have e : (fun y => if y = a then p else if y = b then q else if y = a then va else if y = b then vb else r y) = fun y => if y = a then p else if y = b then q else r y := by
    funext y
    by_cases h1 : y = a
    · rw [if_pos h1, if_pos h1]
    · rw [if_neg h1, if_neg h1]
      by_cases h2 : y = b
      · subst h2; simp [h1]
      · simp [h1, h2]
  rwa [e] at F
end
/-- the loop over the words: what holds when k words are left -/
inductive FInv (g : Heap) (L : Addr) (s₀ : Shared) (I mk dmk ln x dx rec drec lst wl al : Addr) (g1 g2 g3 g4 g5 g6 e1 f1 f2 f3 f4 mxl : Int) (m1 m2 m3 m4 m5 m6 m7 m8 m9 tW k1 q1 q2 q3 q4 u0 t1 t2 t3 tw : Tok) (v2 v3 v4 : Value) (n1 n2 nw na : Nat) (wvs : Array Value) (a1 a2 a3 : PySem.Str) (words : List PySem.Str) (k : Nat) : Shared → Prop
  | mk (i : Nat) (h : Heap) (gs : Array GenState) (tk : Nat) (io : Obj) (lns its : Array Value) (cn' n : Nat) (t0 : Tok) (p2 p9 : Array Value) (lines ws : List PySem.Str) (tups : List (Addr × Obj)) (va vw : Option Value)
      (hi : i + k = words.length) (hf : foldS mxl a1 a2 a3 (words.take i) = (lines, ws))
      (F : Fr g L h (fun y => if y = Str.ofString "answer" then va else if y = Str.ofString "word" then vw else fFold mk rec al wl mxl tw y))
      (N : News g L h ((I, io) :: (mk, instObj 136 dmk) :: (dmk, dictOf [⟨g1, .str (Str.ofString "_maxlen") m1, .int mxl tW⟩, ⟨g2, .str (Str.ofString "_continuation_ws") m2, .str (Str.ofString " ") m3⟩, ⟨g3, .str (Str.ofString "_continuation_ws_len") m4, .int 1 m5⟩, ⟨g4, .str (Str.ofString "_splitchars") m6, .str (Str.ofString " ") m7⟩, ⟨g5, .str (Str.ofString "_lines") m8, .ref ln⟩, ⟨g6, .str (Str.ofString "_current_line") m9, .ref x⟩] 6) :: (ln, W.listOf lns cn') :: (x, accO dx its n) :: (dx, dictOf [⟨e1, .str (Str.ofString "_initial_size") k1, .int 0 t0⟩] 1) :: (rec, instObj 59 drec) :: (drec, dictOf [⟨f1, .str (Str.ofString "useragents") q1, .ref lst⟩, ⟨f2, .str (Str.ofString "rulelines") q2, v2⟩, ⟨f3, .str (Str.ofString "delay") q3, v3⟩, ⟨f4, .str (Str.ofString "req_rate") q4, v4⟩] n1) :: (lst, W.listOf #[.str (Str.ofString "*") u0, .str a1 t1, .str a2 t2, .str a3 t3] n2) :: (wl, W.listOf wvs nw) :: (al, W.listOf #[.str a1 t1, .str a2 t2, .str a3 t3] na) :: (182, tabObj p2) :: (189, tabObj p9) :: tups))
      (hio : IsLI io wl i) (hp2 : psOk pos132 p2) (hp9 : psOk pos135 p9) (hG : AllBare s₀.gens → AllBare gs) (hS : StrsAre lns.toList lines) (hTI : TupsIn tups its ws) (htc : ∀ p ∈ tups, p.2.cls = .type "tuple") :
      FInv g L s₀ I mk dmk ln x dx rec drec lst wl al g1 g2 g3 g4 g5 g6 e1 f1 f2 f3 f4 mxl m1 m2 m3 m4 m5 m6 m7 m8 m9 tW k1 q1 q2 q3 q4 u0 t1 t2 t3 tw v2 v3 v4 n1 n2 nw na wvs a1 a2 a3 words k ⟨h, gs, s₀.drawn, tk, s₀.os⟩
structure Hold (P : Prop) : Prop where
  get : P
theorem loop_start {prog : Program} {w : World} {A : Around} {E : Value → Shared → Prop} {s : Shared} {nm : PySem.Str} {sc : Scope} {fa : Addr} {cdv : Value} {px p2' pos : Pos} {body : List Stmt} {Q : Flow → Shared → Prop}
    {g : Heap} {L : Addr} {mk dmk ln x dx rec drec lst wl al : Addr} {g1 g2 g3 g4 g5 g6 e1 f1 f2 f3 f4 mxl : Int} {m1 m2 m3 m4 m5 m6 m7 m8 m9 tW k1 t0 q1 q2 q3 q4 u0 t1 t2 t3 tw : Tok} {v2 v3 v4 : Value} {n n1 n2 nw na cn' : Nat} {wvs p2 p9 : Array Value} {a1 a2 a3 : PySem.Str} {words : List PySem.Str}
    (F : Fr g L s.heap (fFold mk rec al wl mxl tw))
    (hW : StrsAre wvs.toList words)
    (N : News g L s.heap [(mk, instObj 136 dmk), (dmk, dictOf [⟨g1, .str (Str.ofString "_maxlen") m1, .int mxl tW⟩, ⟨g2, .str (Str.ofString "_continuation_ws") m2, .str (Str.ofString " ") m3⟩, ⟨g3, .str (Str.ofString "_continuation_ws_len") m4, .int 1 m5⟩, ⟨g4, .str (Str.ofString "_splitchars") m6, .str (Str.ofString " ") m7⟩, ⟨g5, .str (Str.ofString "_lines") m8, .ref ln⟩, ⟨g6, .str (Str.ofString "_current_line") m9, .ref x⟩] 6), (ln, W.listOf #[] cn'), (x, accO dx #[] n), (dx, dictOf [⟨e1, .str (Str.ofString "_initial_size") k1, .int 0 t0⟩] 1), (rec, instObj 59 drec), (drec, dictOf [⟨f1, .str (Str.ofString "useragents") q1, .ref lst⟩, ⟨f2, .str (Str.ofString "rulelines") q2, v2⟩, ⟨f3, .str (Str.ofString "delay") q3, v3⟩, ⟨f4, .str (Str.ofString "req_rate") q4, v4⟩] n1), (lst, W.listOf #[.str (Str.ofString "*") u0, .str a1 t1, .str a2 t2, .str a3 t3] n2), (wl, W.listOf wvs nw), (al, W.listOf #[.str a1 t1, .str a2 t2, .str a3 t3] na), (182, tabObj p2), (189, tabObj p9)]) (hp2 : psOk pos132 p2) 
    (hp9 : psOk pos135 p9) (hE : PassesOwn (model prog w) A (envOf nm sc L fa cdv) E)
    (hsf : ∀ x, foldedSetIterable (.Name (Str.ofString "words") p2') (envOf nm sc L fa cdv) x = pure x) (hkn : sc.kind = .function)
    (hl : (envOf nm sc L fa cdv).kindOf (Str.ofString "words") = some .local)
    (hz : Hold (∀ I s₁, FInv g L s I mk dmk ln x dx rec drec lst wl al g1 g2 g3 g4 g5 g6 e1 f1 f2 f3 f4 mxl m1 m2 m3 m4 m5 m6 m7 m8 m9 tW k1 q1 q2 q3 q4 u0 t1 t2 t3 tw v2 v3 v4 n1 n2 nw na wvs a1 a2 a3 words 0 s₁ → wpAny (model prog w) A (pyNext (.ref I)) (fun r s₂ => r = none ∧ wpAny (model prog w) A (execs [] (envOf nm sc L fa cdv)) Q E s₂) E s₁))
    (hs : Hold (∀ I k s₁, FInv g L s I mk dmk ln x dx rec drec lst wl al g1 g2 g3 g4 g5 g6 e1 f1 f2 f3 f4 mxl m1 m2 m3 m4 m5 m6 m7 m8 m9 tW k1 q1 q2 q3 q4 u0 t1 t2 t3 tw v2 v3 v4 n1 n2 nw na wvs a1 a2 a3 words (k + 1) s₁ → wpAny (model prog w) A (pyNext (.ref I)) (fun r s₂ => ∃ v, r = some v ∧ wpAny (model prog w) A (assign (.Name (Str.ofString "word") px) (envOf nm sc L fa cdv) v) (fun _ s₃ => wpAny (model prog w) A (execs body (envOf nm sc L fa cdv)) (fun f s₄ => match f with
      | .next | .cont => FInv g L s I mk dmk ln x dx rec drec lst wl al g1 g2 g3 g4 g5 g6 e1 f1 f2 f3 f4 mxl m1 m2 m3 m4 m5 m6 m7 m8 m9 tW k1 q1 q2 q3 q4 u0 t1 t2 t3 tw v2 v3 v4 n1 n2 nw na wvs a1 a2 a3 words k s₄
      | .brk => Q .next s₄
      | .ret v => Q (.ret v) s₄) E s₃) E s₂) E s₁)) :
    wpAny (model prog w) A (exec (.For (.Name (Str.ofString "word") px) (.Name (Str.ofString "words") p2') body [] pos) (envOf nm sc L fa cdv)) Q E s := by
  refine For_turns (ld F rfl ?_ hkn hl) hsf hE
  refine pyIter_list_K F N (.tail _ (.tail _ (.tail _ (.tail _ (.tail _ (.tail _ (.tail _ (.tail _ (.head _))))))))) fun I io h' hio F' N' lt => ⟨words.length, ?_⟩
  refine turns_ind (fun k s₁ => FInv g L s I mk dmk ln x dx rec drec lst wl al g1 g2 g3 g4 g5 g6 e1 f1 f2 f3 f4 mxl m1 m2 m3 m4 m5 m6 m7 m8 m9 tW k1 q1 q2 q3 q4 u0 t1 t2 t3 tw v2 v3 v4 n1 n2 nw na wvs a1 a2 a3 words k s₁) (fun s₁ h => hz.get I s₁ h) (fun k s₁ h => hs.get I k s₁ h) _ _ ?_
  exact FInv.mk 0 h' s.gens s.toks io #[] #[] cn' n t0 p2 p9 [] [] [] _ _ (by omega) (by simp [foldS]) (fr_two F') N' hio hp2 hp9 (fun h => h) .nil .nil (fun p hp => nomatch hp)
end Mine
end
section
open PySem PySem.W PyProof.Rows PySem.Calls PySem.Spec
set_option maxRecDepth 100000
namespace Mine
def rowsF (mxl : Int) (a1 a2 a3 : PySem.Str) (words : List PySem.Str) : List PySem.Str := (foldS mxl a1 a2 a3 words).1 ++ [txt (foldS mxl a1 a2 a3 words).2]
theorem cut_nil (mxl : Int) (v : PySem.Str) : cutB mxl [] v = false := rfl
theorem step_no {mxl : Int} {a1 a2 a3 : PySem.Str} {lines ws : List PySem.Str} {v : PySem.Str} (hh : hit3 a1 a2 a3 (txt ws ++ Str.ofString " " ++ v) = false) :
    stepF mxl a1 a2 a3 (lines, ws) v = if cutB mxl ws v then (lines ++ [txt ws], [v]) else (lines, ws ++ [v]) := by
  unfold stepF; dsimp only; rw [hh]; rfl
theorem step_yes {mxl : Int} {a1 a2 a3 : PySem.Str} {lines ws : List PySem.Str} {v : PySem.Str} (hh : hit3 a1 a2 a3 (txt ws ++ Str.ofString " " ++ v) = true) :
    stepF mxl a1 a2 a3 (lines, ws) v = (lines ++ [txt ws], [v]) := by
  unfold stepF; dsimp only; rw [hh, if_pos rfl]; dsimp only; rw [cut_nil, if_neg (by decide)]; rfl
theorem strs_no {mxl : Int} {a1 a2 a3 : PySem.Str} {lines ws : List PySem.Str} {v : PySem.Str} {lns : Array Value} {t1 : Tok} (hh : hit3 a1 a2 a3 (txt ws ++ Str.ofString " " ++ v) = false) (hS : StrsAre lns.toList lines) :
    StrsAre (if cutB mxl ws v then lns.push (.str (txt ws) t1) else lns).toList (stepF mxl a1 a2 a3 (lines, ws) v).1 := by
  rw [step_no hh]
  cases cutB mxl ws v
  · exact hS
  · exact strs_push hS
theorem tups_no {mxl : Int} {a1 a2 a3 : PySem.Str} {lines ws : List PySem.Str} {v : PySem.Str} {its : Array Value} {tups : List (Addr × Obj)} {T : Addr} {tf tv : Tok} (hh : hit3 a1 a2 a3 (txt ws ++ Str.ofString " " ++ v) = false) (x : TupsIn tups its ws) :
    TupsIn ((T, { cls := .type "tuple", data := .seq #[.str (Str.ofString " ") tf, .str v tv] }) :: tups) (if cutB mxl ws v then #[.ref T] else its.push (.ref T)) (stepF mxl a1 a2 a3 (lines, ws) v).2 := by
  rw [step_no hh]
  cases cutB mxl ws v
  · exact x.push
  · exact (TupsIn.nil (tups := tups)).push
theorem strs_yes {mxl : Int} {a1 a2 a3 : PySem.Str} {lines ws : List PySem.Str} {v : PySem.Str} {lns r : Array Value} {t1 : Tok} (hh : hit3 a1 a2 a3 (txt ws ++ Str.ofString " " ++ v) = true) (hS : StrsAre lns.toList lines) :
    StrsAre (if cutB mxl [] v then r else lns.push (.str (txt ws) t1)).toList (stepF mxl a1 a2 a3 (lines, ws) v).1 := by
  rw [step_yes hh, cut_nil]
  exact strs_push hS
theorem tups_yes {mxl : Int} {a1 a2 a3 : PySem.Str} {lines ws : List PySem.Str} {v : PySem.Str} {r : Array Value} {tups : List (Addr × Obj)} {T : Addr} {tf tv : Tok} (hh : hit3 a1 a2 a3 (txt ws ++ Str.ofString " " ++ v) = true) :
    TupsIn ((T, { cls := .type "tuple", data := .seq #[.str (Str.ofString " ") tf, .str v tv] }) :: tups) (if cutB mxl [] v then r else #[].push (.ref T)) (stepF mxl a1 a2 a3 (lines, ws) v).2 := by
  rw [step_yes hh, cut_nil]
  exact (TupsIn.nil (tups := tups)).push
theorem foldS_rows {mxl : Int} {a1 a2 a3 : PySem.Str} : ∀ {l : List PySem.Str} {r : PySem.Str}, r ∈ (foldS mxl a1 a2 a3 l).1 → ∃ us, r = txt us ∧ ∀ u ∈ us, u ∈ l := by
  intro l
  refine rev_ind (P := fun l => ∀ {r : PySem.Str}, r ∈ (foldS mxl a1 a2 a3 l).1 → ∃ us, r = txt us ∧ ∀ u ∈ us, u ∈ l) ?_ ?_ l
  · intro r h; simp [foldS] at h
  · intro l v ih r h
    rw [foldS_snoc] at h
    have old : r ∈ (foldS mxl a1 a2 a3 l).1 → ∃ us, r = txt us ∧ ∀ u ∈ us, u ∈ l ++ [v] := fun h => let ⟨us, e, hu⟩ := ih h; ⟨us, e, fun u x => List.mem_append_left _ (hu u x)⟩
    have new : r = txt (foldS mxl a1 a2 a3 l).2 → ∃ us, r = txt us ∧ ∀ u ∈ us, u ∈ l ++ [v] := fun e => ⟨_, e, fun u x => List.mem_append_left _ (foldS_mem x)⟩
    have hk : (foldS mxl a1 a2 a3 l) = ((foldS mxl a1 a2 a3 l).1, (foldS mxl a1 a2 a3 l).2) := rfl
    rw [hk] at h
    cases hh : hit3 a1 a2 a3 (txt (foldS mxl a1 a2 a3 l).2 ++ Str.ofString " " ++ v) with
    | true =>
      rw [step_yes hh] at h
      rcases List.mem_append.mp h with h | h
      · exact old h
      · exact new (List.mem_singleton.mp h)
    | false =>
      rw [step_no hh] at h
      split at h
      · rcases List.mem_append.mp h with h | h
        · exact old h
        · exact new (List.mem_singleton.mp h)
      · exact old h
theorem txt_one_len (v : PySem.Str) : (txt [v]).length = 1 + v.length := by rw [len_cs, cs_txt, len_cs]; simp [Nat.add_comm]
theorem foldS_sum {mxl : Int} {a1 a2 a3 : PySem.Str} : ∀ {l : List PySem.Str}, (∀ u ∈ l, Wd u) → ((foldS mxl a1 a2 a3 l).1.map (·.length)).sum + (txt (foldS mxl a1 a2 a3 l).2).length ≤ 4 * l.length := by
  intro l
  refine rev_ind (P := fun l => (∀ u ∈ l, Wd u) → ((foldS mxl a1 a2 a3 l).1.map (·.length)).sum + (txt (foldS mxl a1 a2 a3 l).2).length ≤ 4 * l.length) ?_ ?_ l
  · intro _; rw [show foldS mxl a1 a2 a3 [] = ([], []) from rfl, txt_nil]; simp [len_cs, cs_empty]
  · intro l v ih hw
    have h1 := ih fun u hu => hw u (List.mem_append_left _ hu)
    have h2 := (hw v (by simp)).len.2
    have hs1l : (Str.ofString " ").length = 1 := by decide +kernel
    have h3 := txt_one_len v
    rw [foldS_snoc]
    have hk : (foldS mxl a1 a2 a3 l) = ((foldS mxl a1 a2 a3 l).1, (foldS mxl a1 a2 a3 l).2) := rfl
    rw [hk]
    generalize (foldS mxl a1 a2 a3 l).1 = A at h1 ⊢
    generalize (foldS mxl a1 a2 a3 l).2 = B at h1 ⊢
    cases hh : hit3 a1 a2 a3 (txt B ++ Str.ofString " " ++ v) with
    | true =>
      rw [step_yes hh]
      simp only [List.map_append, List.sum_append, List.map_cons, List.map_nil, List.sum_cons, List.sum_nil, List.length_append, List.length_cons, List.length_nil]
      omega
    | false =>
      rw [step_no hh]
      split
      · simp only [List.map_append, List.sum_append, List.map_cons, List.map_nil, List.sum_cons, List.sum_nil, List.length_append, List.length_cons, List.length_nil]
        omega
      · simp only [List.length_append, List.length_cons, List.length_nil, txt_snoc, PySem.Str.length_append]
        omega
theorem rowsF_free {mxl : Int} {a1 a2 a3 : PySem.Str} {words : List PySem.Str} (hw : ∀ u ∈ words, Wd u) : ∀ r ∈ rowsF mxl a1 a2 a3 words, 124 ∉ r.cps.toList := by
  intro r hr hc
  have key : ∃ us, r = txt us ∧ ∀ u ∈ us, u ∈ words := by
    rcases List.mem_append.mp hr with h | h
    · exact foldS_rows h
    · exact ⟨_, List.mem_singleton.mp h, fun u x => foldS_mem x⟩
  obtain ⟨us, rfl, hu⟩ := key
  rcases txt_signs (fun u x => hw u (hu u x)) 124 hc with e | e
  · omega
  · unfold Sg at e; omega
theorem rowsF_sum {mxl : Int} {a1 a2 a3 : PySem.Str} {words : List PySem.Str} (hw : ∀ u ∈ words, Wd u) (hsolo : ∀ v ∈ words, hit3 a1 a2 a3 (txt [v]) = false) (hn : words.length ≤ 100) : ((rowsF mxl a1 a2 a3 words).map (·.length)).sum + (rowsF mxl a1 a2 a3 words).length * (Str.ofString "|").length ≤ 16777216 ∧ (Str.join (Str.ofString "|") (rowsF mxl a1 a2 a3 words)).length ≤ 10000 := by
  have h1 := foldS_sum (mxl := mxl) (a1 := a1) (a2 := a2) (a3 := a3) hw
  have h2 := foldS_len (mxl := mxl) (a1 := a1) (a2 := a2) (a3 := a3) hsolo
  have h3 : (Str.ofString "|").length = 1 := by decide +kernel
  have hb : ((rowsF mxl a1 a2 a3 words).map (·.length)).sum + (rowsF mxl a1 a2 a3 words).length ≤ 1000 := by
    unfold rowsF
    simp only [List.map_append, List.sum_append, List.map_cons, List.map_nil, List.sum_cons, List.sum_nil, List.length_append, List.length_cons, List.length_nil]
    omega
  refine ⟨by rw [h3]; omega, ?_⟩
  have key : ∀ l : List PySem.Str, (Str.join (Str.ofString "|") l).length ≤ (l.map (·.length)).sum + l.length := by
    intro l
    induction l with
    | nil => simp [Str.join, Str.empty, PySem.Str.length]
    | cons a r ih =>
      cases r with
      | nil => simp [Str.join]
      | cons b r =>
        show (a ++ Str.ofString "|" ++ Str.join (Str.ofString "|") (b :: r)).length ≤ _
        rw [PySem.Str.length_append, PySem.Str.length_append, h3]
        simp only [List.map_cons, List.sum_cons, List.length_cons] at ih ⊢
        omega
  have := key (rowsF mxl a1 a2 a3 words)
  omega
theorem news_rot {g h : Heap} {L : Addr} {a : Addr × Obj} {l t : List (Addr × Obj)} (N : News g L h (a :: (l ++ t))) : News g L h (l ++ a :: t) := fun p hp => by
  rcases List.mem_append.mp hp with hp | hp
  · exact N p (.tail _ (List.mem_append_left _ hp))
  · rcases List.mem_cons.mp hp with rfl | hp
    · exact N _ (.head _)
    · exact N p (.tail _ (List.mem_append_right _ hp))
theorem del_first {I : Addr} {o : Obj} {r : List (Addr × Obj)} (h : ∀ p ∈ r, p.1 ≠ I) : ∀ p ∈ r, p ∈ (I, o) :: r ∧ p.1 ≠ I := fun p hp => ⟨.tail _ hp, h p hp⟩
section
variable {prog : Program} {w : World} {A : Around} {E : Value → Shared → Prop} {s : Shared} {h₀ : Heap} {L : Addr} {m : PySem.Str → Option Value} {news : List (Addr × Obj)} {t u : Tok} {Q : Value → Shared → Prop}
theorem split_rows {rows : List PySem.Str} (hF : Fr h₀ L s.heap m) (hN : News h₀ L s.heap news) (hne : rows ≠ []) (hf : ∀ r ∈ rows, 124 ∉ r.cps.toList) (hsz : (Str.join (Str.ofString "|") rows).length ≤ 10000)
    (h : ∀ D rv h' k, StrsAre rv.toList rows → Fr h₀ L h' m → News h₀ L h' ((D, W.listOf rv 0) :: news) → (∀ p ∈ news, p.1 < D) → Q (.ref D) { s with heap := h', toks := k }) :
    wpAny (model prog w) A (call (.builtin "str.split") [.str (Txt.join (Str.ofString "|") rows) t, .str (Str.ofString "|") u]) Q E s := by
  have e : Txt.join (Str.ofString "|") rows = Str.join (Str.ofString "|") rows := StrLaws.glued_eq_join _ _
  rw [e]
  refine KSpl.split1 hF hN (by decide) (fun D l h' k el hS F N hl => ?_) (by rw [sizeLine_eq]; omega)
  rw [show Str.ofString "|" = (⟨#[124]⟩ : PySem.Str) from by decide +kernel, PS.split_join hne hf] at el
  rw [el] at hS
  exact h D _ h' k hS F N hl
end
end Mine
end
section
open PySem PySem.W PyProof.Rows PySem.Calls PySem.Spec
set_option maxRecDepth 100000
namespace Mine
local macro_rules | `(tactic| k_mem) => `(tactic| assumption)
local macro_rules | `(tactic| k_inst) => `(tactic| (refine' Mine.InstAt.ofAcc ?N ?h1 ?h2; (case N => k_asm); (case h1 => k_mem); (case h2 => k_mem)))
local macro_rules | `(tactic| k_ne) => `(tactic| (refine neN ?_; (try dsimp only); first | exact Mine.NeA.ne (by with_reducible assumption) | exact Mine.NeA.ne' (by with_reducible assumption) | omega))
local macro_rules | `(tactic| k_all) => `(tactic| assumption)
local macro_rules | `(tactic| walk_at $s:str) => `(tactic| k_extra $s)
theorem words_C13 : True := by
  k_with_none
  w_top off
  k_with "myenter" => (first | ((refine' Mine.enterR (by k_asm) (by k_asm) (by k_asm) (by k_asm) (by k_asm) (by exact rfl) (by exact rfl) (by assumption) (by k_is) (by k_is) (by ktr_room) (by first | exact BindsTo.of_eq rfl | exact binds_K (by k_in) rfl (by k_is) rfl rfl rfl) (by exact locs rfl) ?_ (by exact rfl) (by exact rfl) (by exact rfl) (by decide); k_whole; intro g' L' h' hG' FG' F' N' B' X' T' l1; (try k_lt l1); (try dsimp only); (try k_lift B'); (try k_fold))) | fail "no")
  k_with "mylen" => (first | (first | omega | (simp only [PySem.Str.length_append, PySem.sizeLine_eq] at *; omega)) | fail "no")
  k_with "call builtin:list.append" => (first | ((k_here; (with_reducible show wpAny _ _ (call (Value.builtin _) [Value.ref _, _]) _ _ _); k_dflt (refine' Mine.append_accL (by k_asm) (by k_asm) (by k_asm) (by k_upd) (by k_mem) (by k_is) ?_ (by walk_at "mylen"); k_whole); intro h' F' N'; (try k_sweep))) | fail "no")
  k_with "getAttr ref" => (first | ((k_here; k_dflt (refine' Mine.get_ownL' (by k_asm) (by k_asm) (by k_inst) (by k_is) (by k_is) (by k_is) (by k_is) (by k_is) (by k_is) (by k_get) (by k_handed) ?_; k_whole))) | fail "no")
  k_with "mytups" => (first | (first | assumption | exact Mine.TupsAt.keeps (by assumption) (fun b o e _ => Fr.keep (by k_asm) b o e)) | fail "no")
  k_with "eval GeneratorExp" => (first | ((k_here; k_dflt (first | ((with_reducible show wpAny _ _ (eval (Expr.GeneratorExp (Expr.BinOp _ _ _ _) _ _ _) _) _ _ _); refine' Mine.gen_len_K (by k_asm) (by k_asm) (by k_asm) (by k_asm) (by exact rfl) (by exact rfl) (by exact rfl) (by exact rfl) (by exact rfl) (by ktr_room) (by k_mem) (by k_mem) (by (intro ps'; k_upd)) (by assumption) (by walk_at "mytups") (by assumption) ?_) | ((with_reducible show wpAny _ _ (eval (Expr.GeneratorExp (Expr.Call _ _ _ _) _ _ _) _) _ _ _); refine' Mine.gen_join_K (by exact rfl) (by k_asm) (by k_asm) (by k_asm) (by k_asm) (by exact rfl) (by exact rfl) (by exact rfl) (by exact rfl) (by exact rfl) (by ktr_room) (by k_mem) (by k_mem) (by (intro ps'; k_upd)) (by assumption) (by walk_at "mytups") (by assumption) ?_)); intro a' ps' h' gs' tk' lo' F' N' hps' hAB' hlo' hlo2' G'; (try dsimp only at N'))) | fail "no")
  k_with "call builtin:sum" => (first | ((k_here; k_dflt (refine' Mine.sum_len_K (by k_asm) (by k_asm) (by refine Mine.Gen.toks (by assumption) ?_; first | exact Nat.le_succ _ | exact Nat.le_refl _) (by exact (Mine.TupsAt.size (by assumption)).symm) (by assumption) (by assumption) ?_); intro h' gs' tk' t' F' N' hAB' hK')) | fail "no")
  k_with "call builtin:str.join" => (first | ((k_here; (with_reducible show wpAny _ _ (call (Value.builtin _) [Value.str _ _, Value.ref _]) _ _ _); k_dflt (refine' Mine.join_str_K (by k_asm) (by k_asm) (by refine Mine.Gen.toks (by assumption) ?_; first | exact Nat.le_succ _ | exact Nat.le_refl _) (by exact (Mine.TupsAt.size (by assumption)).symm) (by assumption) (by assumption) (by assumption) (by assumption) ?_); intro h' gs' tk' t' F' N' hAB' hK')) | fail "no")
  k_with "ksenter" => (first | ((refine' Mine.ks_codeR (by k_asm) (by k_asm) (by k_asm) (by k_asm) (by k_asm) (by exact rfl) (by exact rfl) (by assumption) (by k_is) (by k_is) (by ktr_room) (by first | exact BindsTo.of_eq rfl | exact binds_K (by k_in) rfl (by k_is) rfl rfl rfl) (by exact locs rfl) ?_ (by decide) (by exact rfl) (by exact rfl) (by exact rfl); intro g' L' h' hG' FG' F' N' B' X' T' l1; (try k_lt l1); (try dsimp only); (try k_lift B'); (try k_fold))) | fail "no")
  k_with "call ref" => (first | ((k_here; k_dflt (first | (refine' Mine.call_len_K (by k_asm) (by k_mem) (by k_mem) ?_; intro t' tk') | (refine' Mine.call_pop_K (by k_asm) (by k_asm) (by k_asm) (by k_mem) (by k_upd) (by k_mem) (by exact rfl) (by rfl) (by k_is) (by k_is) (by walk_at "mylen") ?_; intro h' F' N')))) | fail "no")
  k_with "newsx" => (first | (first | (intro _; exact News.nil) | (intro nx; refine' Mine.News.one nx (by k_mem) (by walk_at "newsx"))) | fail "no")
  k_with "news" => (first | (first | assumption | (refine' Mine.News.one (by assumption) (by k_mem) (by walk_at "newsx")) | (refine News.perm (by assumption) ?_; simp; done) | (refine News.perm (by assumption) ?_; intro p hp; simp only [List.mem_cons, List.not_mem_nil, or_false] at hp ⊢; rcases hp with rfl | hp <;> simp_all)) | fail "no")
  k_with "kb" => (first | (exact Mine.KB.fin (by assumption) (by assumption)) | fail "no")
  k_with "splitne" => (first | ((repeat ((with_reducible rename Mine.NeA _ _ ∧ _ => kc'); (first | (refine Mine.sp16 kc' ?_; intro _ _ _ _ _ _ _ _ _ _ _ _ _ _ _ _ _) | (refine Mine.sp8 kc' ?_; intro _ _ _ _ _ _ _ _ _) | (refine Mine.sp4 kc' ?_; intro _ _ _ _ _) | (refine Mine.sp2 kc' ?_; intro _ _ _) | (refine Mine.sp1 kc' ?_; intro _ _)); clear kc'))) | fail "no")
  k_with "upds" => (first | (first | exact Mine.Upds.nil | (refine' Mine.Upds.cons (by k_upd) (by walk_at "upds"))) | fail "no")
  k_with "mylens" => (first | (assumption) | fail "no")
  k_with "call ref" => (first | ((k_here; k_dflt ((first | with_reducible show wpAny _ _ (call (Value.ref 217) _) _ _ _ | with_reducible show wpAny _ _ (call (Value.ref (nat_lit 217)) _) _ _ _); refine' Mine.part_count_K _ _ _ _ _ _ _ _ _ _ _ _ _ _ _ _ _ _ _ _ _ _ _ _ _ _ _ (by k_asm) (by k_asm) (by k_asm) (by k_asm) (by first | assumption | exact rfl) (by (dsimp only [ktrTop, Around.deeper]; omega)) (by (dsimp only [ktrTop, Around.deeper]; omega)) (by k_asm) (by k_mem) (by k_mem) ?_); intro h' tk' t' F' N')) | fail "no")
  k_with "call ref" => (first | ((k_here; k_dflt ((first | with_reducible show wpAny _ _ (call (Value.ref 187) _) _ _ _ | with_reducible show wpAny _ _ (call (Value.ref (nat_lit 187)) _) _ _ _); refine' Mine.len_K _ _ _ _ _ _ _ _ _ _ _ _ _ _ _ _ _ _ _ _ _ _ _ _ _ _ _ _ _ _ (by k_asm) (by k_asm) (by k_asm) (by k_asm) (by first | assumption | exact rfl) (by (dsimp only [ktrTop, Around.deeper]; omega)) (by (dsimp only [ktrTop, Around.deeper]; omega)) (by k_asm) (by k_mem) (by k_mem) (by (intro ps'; walk_at "upds")) (by assumption) (by walk_at "mytups") (by walk_at "mylens") (by walk_at "mylen") ?_); intro ps' h' gs' tk' t' F' N' hps' hAB' hlb'; (try dsimp only at N'); (try (refine Mine.len_back (by assumption) ?_)))) | fail "no")
  k_with "call ref" => (first | ((k_here; k_dflt ((first | with_reducible show wpAny _ _ (call (Value.ref 194) _) _ _ _ | with_reducible show wpAny _ _ (call (Value.ref (nat_lit 194)) _) _ _ _); refine' Mine.str_K _ _ _ _ _ _ _ _ _ _ _ _ _ _ _ _ _ _ _ _ _ _ _ _ _ _ _ _ _ _ (by k_asm) (by k_asm) (by k_asm) (by k_asm) (by first | assumption | exact rfl) (by (dsimp only [ktrTop, Around.deeper]; omega)) (by (dsimp only [ktrTop, Around.deeper]; omega)) (by k_asm) (by k_mem) (by k_mem) (by (intro ps'; walk_at "upds")) (by assumption) (by walk_at "mytups") (by walk_at "mylens") (by walk_at "mylen") ?_); intro ps' h' gs' tk' t' F' N' hps' hAB' hTk'; (try dsimp only at N'); (try dsimp only [W.StrBack]))) | fail "no")
  k_with "call ref" => (first | ((k_here; k_dflt ((first | with_reducible show wpAny _ _ (call (Value.ref 164) _) _ _ _ | with_reducible show wpAny _ _ (call (Value.ref (nat_lit 164)) _) _ _ _); refine' Mine.push_K _ _ _ _ _ _ _ _ _ _ _ _ _ _ _ _ _ _ _ _ _ _ _ _ _ _ _ _ _ _ _ _ (by k_asm) (by k_asm) (by k_asm) (by k_asm) (by first | assumption | exact rfl) (by (dsimp only [ktrTop, Around.deeper]; omega)) (by (dsimp only [ktrTop, Around.deeper]; omega)) (by k_asm) (by k_mem) (by (intro tp'; walk_at "upds")) (by walk_at "mylen") ?_); intro tp' h' tk' F' N' hne'; (try dsimp only at N'); (replace hne' := Mine.allNe_of hne'; dsimp only [Mine.AllNe] at hne'; walk_at "splitne"))) | fail "no")
  k_with "subscriptTail Name Slice ref ref" => (first | ((k_here; (with_reducible show wpAny _ _ (subscriptTail _ (PySem.Expr.Slice _ _ none _) (Value.ref _) (Value.ref _)) _ _ _); k_dflt (refine' Mine.slice_K (by k_asm) (by k_asm) (by k_asm) (by k_mem) (by k_mem) (by k_is) (by k_is) (by k_is) (by kmk_part) (by kmk_part) (by walk_at "mylen") (by first | exact Mine.pick_from (by assumption) | exact rfl) ?_ (by with_unfolding_all rfl) (by kmk_pure)); intro D' h' F' N' l1; (try k_lt l1))) | fail "no")
  k_with "setItem ref ref" => (first | ((k_here; k_dflt (refine' Mine.setitem_K (by k_asm) (by k_asm) (by k_asm) (by kmk_list) (by (intro n'; k_upd)) (by k_mem) (by k_is) (by k_is) (by k_is) (by kmk_part) (by kmk_part) (by walk_at "mylen") (by first | walk_at "mylen" | (simp; done)) (by first | exact Mine.set_from (by assumption) | exact Mine.set_all | exact rfl) ?_); intro n' h' F' N'; (try dsimp only at N'))) | fail "no")
  k_with "setAttr ref" => (first | ((k_here; k_dflt (refine' Mine.set_dictL (by k_asm) (by k_asm) (by k_asm) (by k_inst) (by exact rfl) (by k_is) (by exact Mine.mro220 _) (by k_is) (by k_is) (by k_get) (by k_put) (by k_upd) (by exact Nat.le_of_ble_eq_true rfl) ?_; k_whole; intro h' F' N'; (try k_sweep)))) | fail "no")
  k_with "wpAt" => (first | (((with_reducible show _root_.PySem.wpAt _ _ _ (execs (_ :: _) _) _ _ _); refine ks_wpAt_execs_cons ?_)) | fail "no")
  k_with "wpAt" => (first | ((ks_step "eval Call"; k_dflt (refine ks_wpAt_MethodCall ?_))) | fail "no")
  k_with "truthy ref" => (first | ((k_here; k_dflt (refine' Mine.truthy_lenL (by k_in) (by k_inst) (by k_is) (by k_is) (by k_is) ?_; k_whole))) | fail "no")
  k_with "Exists" => (first | ((refine ⟨_, _, rfl, ?_⟩)) | fail "no")
  k_with "units" => (first | (first | k_units | (dsimp only [ktrTop, Around.deeper, Around.in1]; omega) | (simp only [ktrTop, Around.deeper, Around.in1, Around.under]; omega)) | fail "no")
  k_with "call type:str" => (first | ((k_here; (with_reducible show wpAny _ _ (call (Value.type "str") [Value.ref _]) _ _ _); k_dflt (refine' kso_call (by walk_at "units") (by k_in) (by k_inst) (by k_is) (by k_is) ?_; k_whole))) | fail "no")
  k_with "sizelen" => (first | (first | assumption | omega | (rw [PySem.sizeLine_eq]; omega) | (simp only [Array.size_push]; omega) | exact Nat.zero_le _) | fail "no")
  k_with "call ref" => (first | ((k_here; k_dflt ((first | with_reducible show wpAny _ _ (call (Value.ref 98) _) _ _ _ | with_reducible show wpAny _ _ (call (Value.ref (nat_lit 98)) _) _ _ _); refine' Mine.newline_N _ _ _ _ _ _ _ _ _ _ _ _ _ _ _ _ _ _ _ _ _ _ _ _ _ _ _ _ _ _ _ _ _ _ _ _ _ _ _ _ _ _ _ _ _ _ _ _ _ _ _ _ (by k_asm) (by k_asm) (by k_asm) (by k_asm) (by first | assumption | exact rfl) (by (dsimp only [ktrTop, Around.deeper]; omega)) (by (dsimp only [ktrTop, Around.deeper]; omega)) (by k_asm) (by k_mem) (by k_mem) (by k_mem) (by k_mem) (by k_mem) (by k_mem) (by k_mem) (by (intro n' t' t1' p2' p9'; walk_at "upds")) (by walk_at "sizelen") (by walk_at "sizelen") (by assumption) (by assumption) (by walk_at "mytups") (by assumption) (by assumption) ?_); intro n' t' t1' p2' p9' h' gs' tk' F' N' hp2' hp9' hAB' hTk'; (try dsimp only at N'))) | fail "no")
  k_with "call ref" => (first | ((k_here; k_dflt ((first | with_reducible show wpAny _ _ (call (Value.ref 136) _) _ _ _ | with_reducible show wpAny _ _ (call (Value.ref (nat_lit 136)) _) _ _ _); refine' Mine.mknew_K _ _ _ _ _ _ _ _ _ _ _ _ _ _ _ _ _ _ _ _ _ _ _ _  (by k_asm) (by k_asm) (by k_asm) (by k_asm) (by first | assumption | exact rfl) (by (dsimp only [ktrTop, Around.deeper]; omega)) (by (dsimp only [ktrTop, Around.deeper]; omega)) (by k_asm) ?_); intro mk' dmk' ln' x' dx' g1' g2' g3' g4' g5' g6' e1' m1' m2' m4' m5' m6' m8' m9' k1' t0' cn' n' h' tk' F' N' f1 f2 f3 f4 f5 f6; (try dsimp only at N'); (replace f1 := Mine.allNe_of f1; dsimp only [Mine.AllNe] at f1; walk_at "splitne"); (replace f2 := Mine.allNe_of f2; dsimp only [Mine.AllNe] at f2; walk_at "splitne"); (replace f3 := Mine.allNe_of f3; dsimp only [Mine.AllNe] at f3; walk_at "splitne"); (replace f4 := Mine.allNe_of f4; dsimp only [Mine.AllNe] at f4; walk_at "splitne"); (replace f5 := Mine.allNe_of f5; dsimp only [Mine.AllNe] at f5; walk_at "splitne"); walk_at "splitne")) | fail "no")
  k_with "call ref" => (first | ((k_here; k_dflt ((first | with_reducible show wpAny _ _ (call (Value.ref 59) _) _ _ _ | with_reducible show wpAny _ _ (call (Value.ref (nat_lit 59)) _) _ _ _); refine' Mine.entnew_K _ _ _ _ _ _ _ _ _ _ _ _ _ _ _ _ _ _ _  (by k_asm) (by k_asm) (by k_asm) (by k_asm) (by first | assumption | exact rfl) (by (dsimp only [ktrTop, Around.deeper]; omega)) (by (dsimp only [ktrTop, Around.deeper]; omega)) (by k_asm) ?_); intro rec' drec' lst' k1' k2' k3' k4' e1' e2' e3' e4' v2' n2' h' tk' F' N' f1 f2 f3 f4; (try dsimp only at N'); (replace f1 := Mine.allNe_of f1; dsimp only [Mine.AllNe] at f1; walk_at "splitne"); (replace f2 := Mine.allNe_of f2; dsimp only [Mine.AllNe] at f2; walk_at "splitne"); (replace f3 := Mine.allNe_of f3; dsimp only [Mine.AllNe] at f3; walk_at "splitne"); walk_at "splitne")) | fail "no")
  k_with "call ref" => (first | ((k_here; k_dflt ((first | with_reducible show wpAny _ _ (call (Value.ref 49) _) _ _ _ | with_reducible show wpAny _ _ (call (Value.ref (nat_lit 49)) _) _ _ _); refine' Mine.applies_K _ _ _ _ _ _ _ _ _ _ _ _ _ _ _ _ _ _ _ _ _ _ _ _ _ _ _ _ _ _ _ _ _ _ _ _ _ _ _ _ _ _ _ _ _  (by k_asm) (by k_asm) (by k_asm) (by k_asm) (by first | assumption | exact rfl) (by (dsimp only [ktrTop, Around.deeper]; omega)) (by (dsimp only [ktrTop, Around.deeper]; omega)) (by k_asm) (by k_mem) (by k_mem) (by k_mem) (by walk_at "sizelen") (by assumption) (by assumption) (by assumption) (by walk_at "noslash") (by assumption) (by assumption) (by assumption) (by assumption) ?_); intro h' tk' F' N'; (try dsimp only at N'))) | fail "no")
  k_with "call ref" => (first | ((k_here; k_dflt ((first | with_reducible show wpAny _ _ (call (Value.ref 133) _) _ _ _ | with_reducible show wpAny _ _ (call (Value.ref (nat_lit 133)) _) _ _ _); refine' Mine.append_N _ _ _ _ _ _ _ _ _ _ _ _ _ _ _ _ _ _ _ _ _ _ _ _ _ _ _ _ _ _ _ _ _ _ _ _ _ _ _ _ _ _ _ _ _ _ _ _ _ _ _ _ _ _ _  (by k_asm) (by k_asm) (by k_asm) (by k_asm) (by first | assumption | exact rfl) (by (dsimp only [ktrTop, Around.deeper]; omega)) (by (dsimp only [ktrTop, Around.deeper]; omega)) (by k_asm) (by k_mem) (by k_mem) (by k_mem) (by k_mem) (by k_mem) (by k_mem) (by k_mem) (by (intro tp' c' n' t' t1' p2' p9'; walk_at "upds")) (by walk_at "sizelen") (by walk_at "sizelen") (by assumption) (by assumption) (by walk_at "mytups") (by walk_at "mywd") (by assumption) ?_); intro tp' c' n' t' t1' p2' p9' h' gs' tk' F' N' hp2' hp9' hAB' hTk' hne'; (try dsimp only at N'))) | fail "no")
  k_with "call ref" => (first | ((k_here; k_dflt ((first | with_reducible show wpAny _ _ (call (Value.ref 84) _) _ _ _ | with_reducible show wpAny _ _ (call (Value.ref (nat_lit 84)) _) _ _ _); refine' Mine.fin_K _ _ _ _ _ _ _ _ _ _ _ _ _ _ _ _ _ _ _ _ _ _ _ _ _ _ _ _ _ _ _ _ _ _ _ _ _ _ _ _ _ _ _ _ _ _ _ _ _ _ _ _ _ _  (by k_asm) (by k_asm) (by k_asm) (by k_asm) (by first | assumption | exact rfl) (by (dsimp only [ktrTop, Around.deeper]; omega)) (by (dsimp only [ktrTop, Around.deeper]; omega)) (by k_asm) (by k_mem) (by k_mem) (by k_mem) (by k_mem) (by k_mem) (by k_mem) (by k_mem) (by (intro lns' c' n' t' p2' p9'; walk_at "upds")) (by walk_at "sizelen") (by walk_at "sizelen") (by assumption) (by assumption) (by walk_at "mytups") (by assumption) (by assumption) (by assumption) (by assumption) ?_); intro lns' c' n' t' t1' p2' p9' h' gs' tk' F' N' hp2' hp9' hAB'; (try dsimp only at N'))) | fail "no")
  k_with "tsub" => (first | ((intro kp kh; repeat (first | exact kh | apply List.mem_cons_of_mem))) | fail "no")
  k_with "mytups" => (first | (first | exact Mine.TupsIn.at (by assumption) (by k_asm) (by walk_at "tsub")) | fail "no")
  k_with "noslash" => (first | (assumption) | fail "no")
  k_with "mywd" => (first | (first | assumption | exact (fun kp kh => absurd kh (by simp))) | fail "no")
  k_with "binaryOp Add str str" => (first | ((k_here; (with_reducible show wpAny _ _ (binaryOp Operator.Add (Value.str _ _) (Value.str _ _)) _ _ _); (refine' KXadd.add (by exact Nat.le_refl _) (by exact Nat.le_refl _) (by omega) ?_); intro _ _ _)) | fail "no")
  k_with "exec For Name Name cons nil" => (first | ((k_here; k_dflt (refine' Mine.loop_start (by k_asm) (by assumption) (by walk_at "news") (by assumption) (by assumption) (by passes_own) (by (intro _; with_unfolding_all rfl)) (by rfl) (by rfl) ?_ ?_))) | fail "no")
  k_with "pyNext ref" => (first | ((k_here; k_dflt (first | (refine' Mine.next_list_K (by k_asm) (by k_asm) (by assumption) (by (intro o'; k_upd)) (by k_mem) (by assumption) ?_; intro o' h' hs' F' N'; (try dsimp only at N'); refine ⟨_, rfl, ?_⟩) | (refine' Mine.end_list_K (by exact rfl) (by k_asm) (by k_asm) (by assumption) (by k_mem) (by k_mem) (by exact Mine.del_first (by k_all)) (by assumption) ?_; intro h' F' N'; (try dsimp only at N'); refine ⟨rfl, ?_⟩)))) | fail "no")
  k_with "call builtin:str.split" => (first | ((k_here; (with_reducible show wpAny _ _ (call (Value.builtin "str.split") [Value.str _ _, Value.str _ _]) _ _ _); k_dflt (refine Mine.split_rows (by k_asm) (by k_asm) (by assumption) (by assumption) (by assumption) ?_); intro D' rv' h' k' hS' F' N' l1; (try k_lt l1))) | fail "no")
  trivial
set_option maxHeartbeats 4000000 in
theorem folded_ok (w : World) {p : Program} {loose : List PySem.Str} {mean : ExcName → Option Value} {mg mb : PySem.Str → Option Value} (dp un : Nat) (gd : Option (List Code)) (cn : PySem.Str) (cs : Scope) (a : Addr) (ccd : Value) (cl : List (PySem.Str × Addr)) (outer : List Env) (A₀ : Around) (base h₀ : Heap) (L : Addr) (m : PySem.Str → Option Value) (s : Shared) (Q E : Value → Shared → Prop) (wl al : Addr) (wvs : Array Value) (nw na : Nat) (a1 a2 a3 : PySem.Str) (t1 t2 t3 tw : Tok) (mxl : Int) (p2 p9 : Array Value) (words : List PySem.Str)
    (B : Below A₀ base outer h₀) (F : Fr h₀ L s.heap m) (X : (Mine.hd.heap_1 w.params).In h₀) (T : Top p loose mean mg mb h₀) (hk : cs.kind = .function) (hd : dp + 40 < recursionLimit) (hu : un + 600 < cLine)
    (N : News h₀ L s.heap [(wl, W.listOf wvs nw), (al, W.listOf #[.str a1 t1, .str a2 t2, .str a3 t3] na), (182, tabObj p2), (189, tabObj p9)])
    (hne : NeA wl al ∧ NeA wl 182 ∧ NeA wl 189 ∧ NeA al 182 ∧ NeA al 189)
    (hW : StrsAre wvs.toList words) (hw : ∀ u ∈ words, Wd u) (hn : words.length ≤ 100) (hne0 : words ≠ [])
    (hp2 : psOk pos132 p2) (hp9 : psOk pos135 p9)
    (ha1 : a1.length ≤ 1000) (ha2 : a2.length ≤ 1000) (ha3 : a3.length ≤ 1000)
    (hs1 : (a1 != Str.ofString "*") = true) (hs2 : (a2 != Str.ofString "*") = true) (hs3 : (a3 != Str.ofString "*") = true)
    (hsolo : ∀ v ∈ words, hit3 a1 a2 a3 (txt [v]) = false)
    (hret : ∀ D rv p2' p9' h' gs tk', StrsAre rv.toList (rowsF mxl a1 a2 a3 words) → Fr h₀ L h' m → News h₀ L h' [(D, W.listOf rv 0), (wl, W.listOf wvs nw), (al, W.listOf #[.str a1 t1, .str a2 t2, .str a3 t3] na), (182, tabObj p2'), (189, tabObj p9')] → psOk pos132 p2' → psOk pos135 p9' → (AllBare s.gens → AllBare gs) →
      KB [(wl, W.listOf wvs nw), (al, W.listOf #[.str a1 t1, .str a2 t2, .str a3 t3] na), (182, tabObj p2), (189, tabObj p9)] s.heap h' → s.heap.get? D = none → Q (.ref D) { s with heap := h', gens := gs, toks := tk' })
    : wpAny (model PySem.Challenge.rw_wn0105_01.row.prog w) (ktrTop dp un gd cn cs L a ccd cl outer) (call (.ref 252) [.ref wl, .ref al, .int mxl tw]) Q E s := by
  obtain ⟨b1, b2, b3, b4, b5⟩ := hne
  revert X; k_fill; intro X
  refine wpAny_call ?_
  k_dflt walk_at "myenter"
  (rename Fr _ _ _ _ => kF')
  replace kF' : Fr _ _ _ (fun y => List.lookup y [(Str.ofString "width", Value.int mxl tw), (Str.ofString "agents", Value.ref al), (Str.ofString "words", Value.ref wl)]) := kF'
  k_steps
  · refine ⟨?_⟩
    intro I s₁ hI
    cases hI with
    | mk i h gs tk io lns its cn' n t0 q2 q9 lines ws tups va vw hi hf F N hio hq2 hq9 hG hS hTI htc =>
    have hiw : i = words.length := by omega
    rw [hiw, List.take_length] at hf
    have hlen := foldS_len (mxl := mxl) (a1 := a1) (a2 := a2) (a3 := a3) (l := words) hsolo
    rw [hf] at hlen
    dsimp only at hlen
    have hwd : ∀ u ∈ ws, Wd u := fun u hu => hw u (foldS_mem (mxl := mxl) (a1 := a1) (a2 := a2) (a3 := a3) (by rw [hf]; exact hu))
    have hwne : ws ≠ [] := by have := foldS_ne (mxl := mxl) (a1 := a1) (a2 := a2) (a3 := a3) hne0; rw [hf] at this; exact this
    have hsz : its.size ≤ 800 := by rw [hTI.1]; omega
    have hsl : lns.size ≤ 800 := by have := strs_len hS; rw [Array.length_toList] at this; omega
    have hrow : rowsF mxl a1 a2 a3 words = lines ++ [txt ws] := by unfold rowsF; rw [hf]
    have hsum := rowsF_sum (mxl := mxl) hw hsolo hn
    have hfree := rowsF_free (mxl := mxl) (a1 := a1) (a2 := a2) (a3 := a3) hw
    rw [hrow] at hsum hfree
    obtain ⟨hJ, hjl⟩ := hsum
    have hrne : lines ++ [txt ws] ≠ [] := by simp
    have hx' : wvs[i]? = none := by
      have := strs_len hW
      rw [Array.length_toList] at this
      exact Array.getElem?_eq_none (by omega)
    have oI := off_tups N (by walk_at "tsub") htc (.head _) (by rw [hio.1]; intro hc; injection hc with hc; exact absurd hc (by decide))
    have oln := off_tups N (by walk_at "tsub") htc (.tail _ (.tail _ (.tail _ (.head _)))) (by intro hc; injection hc with hc; exact absurd hc (by decide))
    have ox := off_tups N (by walk_at "tsub") htc (.tail _ (.tail _ (.tail _ (.tail _ (.head _))))) nofun
    have odx := off_tups N (by walk_at "tsub") htc (.tail _ (.tail _ (.tail _ (.tail _ (.tail _ (.head _)))))) (by intro hc; injection hc with hc; exact absurd hc (by decide))
    have o2 := off_tups N (by walk_at "tsub") htc (.tail _ (.tail _ (.tail _ (.tail _ (.tail _ (.tail _ (.tail _ (.tail _ (.tail _ (.tail _ (.tail _ (.head _)))))))))))) nofun
    have o9 := off_tups N (by walk_at "tsub") htc (.tail _ (.tail _ (.tail _ (.tail _ (.tail _ (.tail _ (.tail _ (.tail _ (.tail _ (.tail _ (.tail _ (.tail _ (.head _))))))))))))) nofun
    have nI1 : NeA I _ := ne_obj N (.head _) (.tail _ (.head _)) (by rw [hio.1]; nofun)
    have nI2 : NeA I _ := ne_obj N (.head _) (.tail _ (.tail _ (.head _))) (by rw [hio.1]; intro hc; injection hc with hc; exact absurd hc (by decide))
    have nI3 : NeA I _ := ne_obj N (.head _) (.tail _ (.tail _ (.tail _ (.head _)))) (by rw [hio.1]; intro hc; injection hc with hc; exact absurd hc (by decide))
    have nI4 : NeA I _ := ne_obj N (.head _) (.tail _ (.tail _ (.tail _ (.tail _ (.head _))))) (by rw [hio.1]; nofun)
    have nI5 : NeA I _ := ne_obj N (.head _) (.tail _ (.tail _ (.tail _ (.tail _ (.tail _ (.head _)))))) (by rw [hio.1]; intro hc; injection hc with hc; exact absurd hc (by decide))
    have nI6 : NeA I _ := ne_obj N (.head _) (.tail _ (.tail _ (.tail _ (.tail _ (.tail _ (.tail _ (.head _))))))) (by rw [hio.1]; nofun)
    have nI7 : NeA I _ := ne_obj N (.head _) (.tail _ (.tail _ (.tail _ (.tail _ (.tail _ (.tail _ (.tail _ (.head _)))))))) (by rw [hio.1]; intro hc; injection hc with hc; exact absurd hc (by decide))
    have nI8 : NeA I _ := ne_obj N (.head _) (.tail _ (.tail _ (.tail _ (.tail _ (.tail _ (.tail _ (.tail _ (.tail _ (.head _))))))))) (by rw [hio.1]; intro hc; injection hc with hc; exact absurd hc (by decide))
    have nI9 : NeA I _ := ne_obj N (.head _) (.tail _ (.tail _ (.tail _ (.tail _ (.tail _ (.tail _ (.tail _ (.tail _ (.tail _ (.head _)))))))))) (by rw [hio.1]; intro hc; injection hc with hc; exact absurd hc (by decide))
    have nI10 : NeA I _ := ne_obj N (.head _) (.tail _ (.tail _ (.tail _ (.tail _ (.tail _ (.tail _ (.tail _ (.tail _ (.tail _ (.tail _ (.head _))))))))))) (by rw [hio.1]; intro hc; injection hc with hc; exact absurd hc (by decide))
    have nI11 : NeA I _ := ne_obj N (.head _) (.tail _ (.tail _ (.tail _ (.tail _ (.tail _ (.tail _ (.tail _ (.tail _ (.tail _ (.tail _ (.tail _ (.head _)))))))))))) (by rw [hio.1]; nofun)
    have nI12 : NeA I _ := ne_obj N (.head _) (.tail _ (.tail _ (.tail _ (.tail _ (.tail _ (.tail _ (.tail _ (.tail _ (.tail _ (.tail _ (.tail _ (.tail _ (.head _))))))))))))) (by rw [hio.1]; nofun)
    k_steps
    exact hret _ _ _ _ _ _ _ (by rw [hrow]; assumption) (by k_asm) (by walk_at "news") (by assumption) (by assumption) (by intro hx; solve_by_elim) (by walk_at "kb") (Mine.fresh_in (by assumption) (by assumption) (by k_mem) (by k_all))
  · refine ⟨?_⟩
    intro I k s₁ hI
    cases hI with
    | mk i h gs tk io lns its cn' n t0 q2 q9 lines ws tups va vw hi hf F N hio hq2 hq9 hG hS hTI htc =>
    have hik : i < words.length := by omega
    obtain ⟨tv, hx⟩ := strs_get hW i hik
    generalize hve : words[i] = v at hx
    have hvm : v ∈ words := hve ▸ List.getElem_mem hik
    have hv : Wd v := hw v hvm
    have hx' : wvs[i]? = some (.str v tv) := by simpa using hx
    have htake : words.take (i + 1) = words.take i ++ [v] := by rw [List.take_add_one, List.getElem?_eq_getElem hik, hve]; rfl
    have hlen := foldS_len (mxl := mxl) (a1 := a1) (a2 := a2) (a3 := a3) (l := words.take i) (fun u hu => hsolo u (List.mem_of_mem_take hu))
    rw [hf, List.length_take] at hlen
    dsimp only at hlen
    have hwd : ∀ u ∈ ws, Wd u := fun u hu => hw u (List.mem_of_mem_take (foldS_mem (mxl := mxl) (a1 := a1) (a2 := a2) (a3 := a3) (by rw [hf]; exact hu)))
    have hlw : ∀ u ∈ ws, u.length ≤ 1000 := fun u hu => by have := (hwd u hu).len.2; omega
    have hsz : its.size ≤ 800 := by rw [hTI.1]; omega
    have hsl : lns.size ≤ 800 := by have := strs_len hS; rw [Array.length_toList] at this; omega
    have htl : (txt ws).length ≤ 400 := by have := txt_len_le hwd; omega
    have hvl : v.length ≤ 3 := hv.len.2
    have hs1l : (Str.ofString " ").length = 1 := by decide +kernel
    have hns : 47 ∉ (txt ws ++ Str.ofString " " ++ v).cps.toList := by
      rw [← txt_snoc]
      intro hc
      rcases txt_signs (ws := ws ++ [v]) (fun u hu => by rcases List.mem_append.mp hu with hu | hu; exact hwd u hu; rw [List.mem_singleton.mp hu]; exact hv) 47 hc with e | e
      · omega
      · unfold Sg at e; omega
    have htt : (txt ws ++ Str.ofString " " ++ v).length ≤ 1000 := by rw [PySem.Str.length_append, PySem.Str.length_append]; omega
    have oI := off_tups N (by walk_at "tsub") htc (.head _) (by rw [hio.1]; intro hc; injection hc with hc; exact absurd hc (by decide))
    have oln := off_tups N (by walk_at "tsub") htc (.tail _ (.tail _ (.tail _ (.head _)))) (by intro hc; injection hc with hc; exact absurd hc (by decide))
    have ox := off_tups N (by walk_at "tsub") htc (.tail _ (.tail _ (.tail _ (.tail _ (.head _))))) nofun
    have odx := off_tups N (by walk_at "tsub") htc (.tail _ (.tail _ (.tail _ (.tail _ (.tail _ (.head _)))))) (by intro hc; injection hc with hc; exact absurd hc (by decide))
    have o2 := off_tups N (by walk_at "tsub") htc (.tail _ (.tail _ (.tail _ (.tail _ (.tail _ (.tail _ (.tail _ (.tail _ (.tail _ (.tail _ (.tail _ (.head _)))))))))))) nofun
    have o9 := off_tups N (by walk_at "tsub") htc (.tail _ (.tail _ (.tail _ (.tail _ (.tail _ (.tail _ (.tail _ (.tail _ (.tail _ (.tail _ (.tail _ (.tail _ (.head _))))))))))))) nofun
    have nI1 : NeA I _ := ne_obj N (.head _) (.tail _ (.head _)) (by rw [hio.1]; nofun)
    have nI2 : NeA I _ := ne_obj N (.head _) (.tail _ (.tail _ (.head _))) (by rw [hio.1]; intro hc; injection hc with hc; exact absurd hc (by decide))
    have nI3 : NeA I _ := ne_obj N (.head _) (.tail _ (.tail _ (.tail _ (.head _)))) (by rw [hio.1]; intro hc; injection hc with hc; exact absurd hc (by decide))
    have nI4 : NeA I _ := ne_obj N (.head _) (.tail _ (.tail _ (.tail _ (.tail _ (.head _))))) (by rw [hio.1]; nofun)
    have nI5 : NeA I _ := ne_obj N (.head _) (.tail _ (.tail _ (.tail _ (.tail _ (.tail _ (.head _)))))) (by rw [hio.1]; intro hc; injection hc with hc; exact absurd hc (by decide))
    have nI6 : NeA I _ := ne_obj N (.head _) (.tail _ (.tail _ (.tail _ (.tail _ (.tail _ (.tail _ (.head _))))))) (by rw [hio.1]; nofun)
    have nI7 : NeA I _ := ne_obj N (.head _) (.tail _ (.tail _ (.tail _ (.tail _ (.tail _ (.tail _ (.tail _ (.head _)))))))) (by rw [hio.1]; intro hc; injection hc with hc; exact absurd hc (by decide))
    have nI8 : NeA I _ := ne_obj N (.head _) (.tail _ (.tail _ (.tail _ (.tail _ (.tail _ (.tail _ (.tail _ (.tail _ (.head _))))))))) (by rw [hio.1]; intro hc; injection hc with hc; exact absurd hc (by decide))
    have nI9 : NeA I _ := ne_obj N (.head _) (.tail _ (.tail _ (.tail _ (.tail _ (.tail _ (.tail _ (.tail _ (.tail _ (.tail _ (.head _)))))))))) (by rw [hio.1]; intro hc; injection hc with hc; exact absurd hc (by decide))
    have nI10 : NeA I _ := ne_obj N (.head _) (.tail _ (.tail _ (.tail _ (.tail _ (.tail _ (.tail _ (.tail _ (.tail _ (.tail _ (.tail _ (.head _))))))))))) (by rw [hio.1]; intro hc; injection hc with hc; exact absurd hc (by decide))
    have nI11 : NeA I _ := ne_obj N (.head _) (.tail _ (.tail _ (.tail _ (.tail _ (.tail _ (.tail _ (.tail _ (.tail _ (.tail _ (.tail _ (.tail _ (.head _)))))))))))) (by rw [hio.1]; nofun)
    have nI12 : NeA I _ := ne_obj N (.head _) (.tail _ (.tail _ (.tail _ (.tail _ (.tail _ (.tail _ (.tail _ (.tail _ (.tail _ (.tail _ (.tail _ (.tail _ (.head _))))))))))))) (by rw [hio.1]; nofun)
    cases hh : hit3 a1 a2 a3 (txt ws ++ Str.ofString " " ++ v) with
    | true =>
      have hwne : ws ≠ [] := by
        intro e
        rw [e, ← txt_snoc, List.nil_append, hsolo v hvm] at hh
        cases hh
      have hTI0 : TupsIn tups #[] [] := .nil
      k_steps
      dsimp only
      (rename News _ _ _ _ => kN)
      (rename Fr _ _ _ _ => kF)
      have kN2 := news_rot (l := [_, _, _, _, _, _, _, _, _, _, _, _, _]) kN
      refine FInv.mk (i + 1) _ _ _ _ _ _ _ _ _ _ _ (stepF mxl a1 a2 a3 (lines, ws) v).1 (stepF mxl a1 a2 a3 (lines, ws) v).2 (_ :: tups) _ _ (by omega) (by rw [htake, foldS_snoc, hf]) (fr_norm kF) kN2 (by assumption) (by assumption) (by assumption) (by intro hx; solve_by_elim) (strs_yes hh hS) (tups_yes hh) ?_
      intro p hp
      rcases List.mem_cons.mp hp with rfl | hp
      · rfl
      · exact htc p hp
    | false =>
      k_steps
      dsimp only
      (rename News _ _ _ _ => kN)
      (rename Fr _ _ _ _ => kF)
      have kN2 := news_rot (l := [_, _, _, _, _, _, _, _, _, _, _, _, _]) kN
      refine FInv.mk (i + 1) _ _ _ _ _ _ _ _ _ _ _ (stepF mxl a1 a2 a3 (lines, ws) v).1 (stepF mxl a1 a2 a3 (lines, ws) v).2 (_ :: tups) _ _ (by omega) (by rw [htake, foldS_snoc, hf]) (fr_norm kF) kN2 (by assumption) (by assumption) (by assumption) (by intro hx; solve_by_elim) (strs_no hh hS) (tups_no hh hTI) ?_
      intro p hp
      rcases List.mem_cons.mp hp with rfl | hp
      · rfl
      · exact htc p hp
end Mine
end
section
/- The plain law: greedy cuts against the told table, and the same number of rows from behind. No program in sight. -/
namespace Mine
namespace PL
/-- chains of k bad intervals between lo and hi, neighbours share one place at most -/
inductive Pk (bad : Nat → Nat → Prop) : Nat → Nat → Nat → Prop
  | nil {a b} : a ≤ b → Pk bad 0 a b
  | snoc {k a i j b} : Pk bad k a (i + 1) → a ≤ i → i + 2 ≤ j → bad i j → j ≤ b → Pk bad (k + 1) a b
theorem Pk.le {bad k a b} (h : Pk bad k a b) : a ≤ b := by
  induction h with
  | nil h => exact h
  | snoc _ h1 h2 _ h3 _ => omega
theorem Pk.widen {bad k a b b'} (h : Pk bad k a b) (hb : b ≤ b') : Pk bad k a b' := by
  cases h with
  | nil h => exact .nil (by omega)
  | snoc h h0 h1 h2 h3 => exact .snoc h h0 h1 h2 (by omega)
theorem Pk.cons {bad k i j b a} (h1 : i + 2 ≤ j) (h2 : bad i j) (h0 : a ≤ i) (h : Pk bad k (j - 1) b) (hb : j ≤ b) : Pk bad (k + 1) a b := by
  generalize hc : j - 1 = c at h
  induction h with
  | nil h => exact .snoc (.nil (by omega)) h0 h1 h2 hb
  | @snoc k' c' i' j' b' hh h0' h1' h2' h3' ih =>
    subst hc
    have hle : j ≤ i' + 1 := by omega
    exact .snoc (ih hle rfl) (by omega) h1' h2' h3'
theorem Pk.rev {bad bad' : Nat → Nat → Prop} {n : Nat} (hb : ∀ i j, i ≤ j → j ≤ n → bad i j → bad' (n - j) (n - i)) {k a b} (h : Pk bad k a b) (hn : b ≤ n) : Pk bad' k (n - b) (n - a) := by
  induction h with
  | nil h => exact .nil (by omega)
  | @snoc k' a i j b' hh h0 h1 h2 h3 ih =>
    have ih := ih (by omega)
    refine Pk.cons (i := n - j) (j := n - i) (by omega) (hb _ _ (by omega) (by omega) h2) (by omega) ?_ (by omega)
    rw [show n - i - 1 = n - (i + 1) by omega]
    exact ih

/-- the table, by its own equations -/
structure Tab (bad : Nat → Nat → Prop) (n : Nat) (M : Nat → Nat) : Prop where
  zero : M 0 = 0
  one : M 1 = 0
  ge : ∀ j, 2 ≤ j → j ≤ n → M (j - 1) ≤ M j
  bad_ge : ∀ i j, i + 2 ≤ j → j ≤ n → bad i j → 1 + M (i + 1) ≤ M j
  att : ∀ j, 2 ≤ j → j ≤ n → M j = M (j - 1) ∨ ∃ i, i + 2 ≤ j ∧ bad i j ∧ M j = 1 + M (i + 1)
theorem Tab.pk {bad n M} (t : Tab bad n M) : ∀ j, j ≤ n → Pk bad (M j) 0 j := by
  intro j
  induction j using Nat.strongRecOn with
  | ind j ih =>
    intro hj
    by_cases h2 : 2 ≤ j
    · rcases t.att j h2 hj with e | ⟨i, hi, hb, e⟩
      · rw [e]; exact (ih (j - 1) (by omega) (by omega)).widen (by omega)
      · rw [e, Nat.add_comm]; exact .snoc (ih (i + 1) (by omega) (by omega)) (by omega) hi hb (by omega)
    · have : M j = 0 := by
        rcases (by omega : j = 0 ∨ j = 1) with rfl | rfl
        · exact t.zero
        · exact t.one
      rw [this]; exact .nil (by omega)
theorem Tab.mono {bad n M} (t : Tab bad n M) : ∀ j i, i ≤ j → j ≤ n → M i ≤ M j := by
  intro j
  induction j with
  | zero => intro i hi _; have : i = 0 := by omega
            subst this; exact Nat.le_refl _
  | succ j ih =>
    intro i hi hj
    rcases (by omega : i = j + 1 ∨ i ≤ j) with rfl | hi
    · exact Nat.le_refl _
    · refine Nat.le_trans (ih i hi (by omega)) ?_
      by_cases h : 2 ≤ j + 1
      · exact t.ge (j + 1) h hj
      · have : j = 0 := by omega
        subst this
        rw [t.zero]; exact Nat.zero_le _
theorem Tab.le {bad n M} (t : Tab bad n M) {k b} (h : Pk bad k 0 b) : b ≤ n → k ≤ M b := by
  generalize ha : 0 = a at h
  induction h with
  | nil h => intro _; exact Nat.zero_le _
  | @snoc k' a i j b' hh h0 h1 h2 h3 ih =>
    subst ha
    intro hb
    have e1 := ih rfl (by omega)
    have e2 := t.bad_ge i j h1 (by omega) h2
    have e3 := t.mono b' j h3 hb
    omega
theorem Tab.rev {bad bad' n M M'} (t : Tab bad n M) (t' : Tab bad' n M') (h1 : ∀ i j, i ≤ j → j ≤ n → bad i j → bad' (n - j) (n - i)) (h2 : ∀ i j, i ≤ j → j ≤ n → bad' i j → bad (n - j) (n - i)) : M n = M' n := by
  apply Nat.le_antisymm
  · have := (t.pk n (Nat.le_refl _)).rev h1 (Nat.le_refl _)
    simp only [Nat.sub_self, Nat.sub_zero] at this
    exact t'.le this (Nat.le_refl _)
  · have := (t'.pk n (Nat.le_refl _)).rev h2 (Nat.le_refl _)
    simp only [Nat.sub_self, Nat.sub_zero] at this
    exact t.le this (Nat.le_refl _)

/-- greedy: r j the row of word j, st j where its row starts -/
theorem Tab.greedy {bad : Nat → Nat → Prop} {n M} (t : Tab bad n M) (hm : ∀ i i' j j', i' ≤ i → j ≤ j' → j' ≤ n → i ≤ j → bad i j → bad i' j') {r st : Nat → Nat}
    (h0 : r 0 = 0) (hst : ∀ j, j < n → st j ≤ j) (hrs : ∀ j, j < n → r (st j) = r j)
    (hlt : ∀ j i, j < n → i < st j → r i < r j)
    (yes : ∀ j, j + 1 < n → bad (st j) (j + 2) → r (j + 1) = r j + 1)
    (no : ∀ j, j + 1 < n → ¬ bad (st j) (j + 2) → r (j + 1) = r j) : ∀ j, j < n → M (j + 1) = r j := by
  intro j
  induction j using Nat.strongRecOn with
  | ind j ih =>
    intro hj
    cases j with
    | zero => rw [h0]; exact t.one
    | succ j =>
      have hmr : ∀ a b, a ≤ b → b ≤ j → r a ≤ r b := by
        intro a b hab hb
        rw [← ih a (by omega) (by omega), ← ih b (by omega) (by omega)]
        exact t.mono _ _ (by omega) (by omega)
      have hsj := hst j (by omega)
      by_cases hb : bad (st j) (j + 2)
      · rw [yes j hj hb]
        have e1 := t.bad_ge (st j) (j + 2) (by omega) (by omega) hb
        rw [ih (st j) (by omega) (by omega), hrs j (by omega)] at e1
        rcases t.att (j + 2) (by omega) (by omega) with e | ⟨i, hi, hb', e⟩
        · rw [show j + 2 - 1 = j + 1 from rfl, ih j (by omega) (by omega)] at e
          rw [show j + 1 + 1 = j + 2 from rfl]; omega
        · rw [ih i (by omega) (by omega)] at e
          have := hmr i j (by omega) (Nat.le_refl _)
          rw [show j + 1 + 1 = j + 2 from rfl]; omega
      · rw [no j hj hb]
        have e1 := t.ge (j + 2) (by omega) (by omega)
        rw [show j + 2 - 1 = j + 1 from rfl, ih j (by omega) (by omega)] at e1
        rcases t.att (j + 2) (by omega) (by omega) with e | ⟨i, hi, hb', e⟩
        · rw [show j + 2 - 1 = j + 1 from rfl, ih j (by omega) (by omega)] at e
          exact e
        · by_cases hi2 : i < st j
          · rw [ih i (by omega) (by omega)] at e
            have := hlt j i (by omega) hi2
            rw [show j + 1 + 1 = j + 2 from rfl]; omega
          · exact absurd (hm i (st j) (j + 2) (j + 2) (by omega) (Nat.le_refl _) (by omega) (by omega) hb') hb
end PL
end Mine
end
section
open PySem PySem.W PyProof.Rows PySem.Calls PySem.Spec
set_option maxRecDepth 100000
namespace Mine
section
variable {prog : Program} {w : World} {A₀ A : Around} {s : Shared} {base h₀ : Heap} {outer : List Env} {L : Addr} {m mg mb : PySem.Str → Option Value} {env : Env} {news : List (Addr × Obj)} {K : Frag} {p : Program} {loose : List PySem.Str} {mean : ExcName → Option Value}
  {R : Result → Shared → Prop} {name qual : PySem.Str} {params : Arguments} {body : List Stmt} {scope : Scope} {dV kV doc pm cdv ct oc : Value} {an od : Option Addr} {osl : Array (Option Value)} {f : Addr} {args : Args} {binds : List (PySem.Str × Value)}
theorem enterRC (B : Below A₀ base outer h₀) (F : Fr h₀ L s.heap m) (X₀ : K.In h₀) (N : News h₀ L s.heap news) (T : Top p loose mean mg mb h₀) (hA : A.frames = some (env :: outer)) (hf : env.frame = some L) (hke : env.scope.kind = .function)
    (ho : K.lookup f = some ⟨oc, od, .func (fnOf name qual params body scope dV kV doc pm an cdv ct), osl⟩) (hcd : codeIn K cdv qual = true) (hroom : A.depth < recursionLimit)
    (hbind : BindsTo s (fnOf name qual params body scope dV kV doc pm an cdv ct) args binds) (hkind : (binds.all fun y => scope.names.lookup y.1 == some .local || scope.names.lookup y.1 == some .cell) = true)
    (hnd : ((cellsFrom 0 scope.names []).map (·.1)).Nodup)
    (h : ∀ g L' h₁ tk cells, KB news s.heap g → Fr h₀ L g m → Fr g L' h₁ (bindL (envOfC qual scope L' f cdv).kindOf binds fun _ => none) → News g L' h₁ (cells ++ news) →
      CellsAre (bindC (envOfC qual scope L' f cdv).kindOf binds fun _ => none) (cellsFrom (L' + 1) scope.names []) cells → Below A base (env :: outer) g → K.In g → Top p loose mean mg mb g → (∀ p ∈ news, p.1 < L') →
      wpAny (model prog w) (A.deeper (envOfC qual scope L' f cdv)) (execs body (envOfC qual scope L' f cdv))
        (fun fl s' => LeaveK h₀ L m g R (match fl with | .ret v => v | _ => .none) s')
        (fun e s' => wpAny (model prog w) (A.deeper (envOfC qual scope L' f cdv)) (leaving (envOfC qual scope L' f cdv) e) (fun _ s'' => R (.error e) s'') (fun e' s'' => R (.error e') s'') s')
        { s with heap := h₁, toks := tk })
    (hco : scope.isCoroutine = false) (hgen : scope.isGenerator = false) (hk : scope.kind = .function) : codeAny (model prog w) A (.call (.ref f) args) R s := by
  obtain ⟨FG, BG, st, lv⟩ := groundX (R := R) B F N hA hf hke
  refine codeAny_call_function hroom ((X₀.keeps F.keep) _ _ ho) rfl hco hgen rfl (codeRec_of (X₀.keeps F.keep) hcd) (hbind _ _ _ _ ?_)
  refine wpAny_newFunctionEnv_cells hk (kindsX hkind _) fun env' he s' x => ?_
  subst he
  refine ⟨T.nolimit.keeps F.keep |>.keeps x.toInCall.keep, codeAny_func ?_⟩
  obtain ⟨h₁, tk, rfl, _⟩ := x.done
  have hk₁ := x.toInCall.keep
  obtain ⟨cells, NC, Y⟩ := Cl.news (h₀ := s.heap) (Nat.le_refl _) fun n c hm => ⟨x.cell n c (lookup_of_mem_nodup (cellsFrom_names scope.names 0 (s.heap.objs.size + 1) [] [] rfl ▸ hnd) hm), x.above n c hm⟩
  refine wpAny_mono (h _ s.heap.objs.size h₁ tk cells (fun b o hb e => hideAll_get _ e hb) FG ⟨x.toInCall.ns, fun b o e => hk₁ b o (of_hideAll _ e), Nat.le_of_eq (hideAll_size _ _)⟩ (fun p hp => ?_) Y BG (X₀.keeps st) (T.keeps st) (fun p hp => Heap.lt_size (N p hp).1)) (fun fl s' hl => lv _ _ hl) fun _ _ y => y
  rcases List.mem_append.mp hp with hp | hp
  · refine ⟨(NC p hp).1, (NC p hp).2.1, ?_⟩
    cases q : (hideAll s.heap (news.map (·.1))).get? p.1 with
    | none => rfl
    | some o => have := of_hideAll _ q; rw [(NC p hp).2.2] at this; cases this
  · exact ⟨hk₁ _ _ (N p hp).1, Nat.ne_of_lt (Heap.lt_size (N p hp).1), hideAll_none _ (List.mem_map_of_mem hp)⟩
end
end Mine
end
section
open PySem PySem.W PyProof.Rows PySem.Calls PySem.Spec
set_option maxRecDepth 100000
namespace Mine
def SEl (news : List (Addr × Obj)) (r : PySem.Str) (y : Value) (news' : List (Addr × Obj)) : Prop := news' = news ∧ ∃ t : Tok, y = .str r t
def FEl (news : List (Addr × Obj)) (b : Bool) (r : PySem.Str) (y : Value) (news' : List (Addr × Obj)) : Prop := news' = news ∧ b = true ∧ ∃ t : Tok, y = .str r t
def FNo (news : List (Addr × Obj)) (b : Bool) (news' : List (Addr × Obj)) : Prop := news' = news ∧ b = false
section
variable {prog : Program} {w : World} {A : Around} {h₀ : Heap} {L : Addr} {m : PySem.Str → Option Value} {env : Env} {elt ct : Expr} {xn : PySem.Str} {scope : Scope} {cl : List (PySem.Str × Addr)} {s : Shared} {S : List (Addr × Obj) → Prop} {Fin : List Value → List (Addr × Obj) → Prop} {news : List (Addr × Obj)}
theorem cr_strs {its : Array Value} {xs : List PySem.Str} (g : PySem.Str → PySem.Str) (hi : StrsAre its.toList xs)
    (turn : ∀ x t I oI C oC D m₂ ys h tk (E' : Value → Shared → Prop), x ∈ xs → LCg.NsObj oC m₂ → m₂ xn = some (.str x t) → Fr h₀ L h m → News h₀ L h ((I, oI) :: (C, oC) :: (D, LCg.lst ys) :: news) → LCg.Off3 I C D news → ((@Ne Nat I C) ∧ (@Ne Nat I D) ∧ (@Ne Nat C D)) →
      wpAny (model prog w) A (eval elt (compEnvC scope cl C env)) (LCg.CompEnd h₀ L m { s with heap := h, toks := tk } I oI C oC D (LCg.lst ys) S (fun y news' => SEl news (g x) y news')) E' { s with heap := h, toks := tk })
    (fin : ∀ ys, StrsAre ys (xs.map g) → Fin ys news) : LCg.CompRest prog w A h₀ L m env elt xn scope cl s S (fun i v => its[i]? = some v) Fin its.size 0 [] news := by
  have hsz : its.size = xs.length := by have := strs_len hi; rwa [Array.length_toList] at this
  have key : ∀ (j i : Nat) (ys : List Value), i + j = its.size → StrsAre ys ((xs.take i).map g) → LCg.CompRest prog w A h₀ L m env elt xn scope cl s S (fun i v => its[i]? = some v) Fin j i ys news := by
    intro j
    induction j with
    | zero =>
      intro i ys hi' hy
      have e : i = xs.length := by omega
      subst e
      rw [List.take_length] at hy
      exact LCg.CompRest.zero (fin ys hy)
    | succ j ih =>
      intro i ys hi' hy
      refine LCg.CompRest.succ ?_
      intro v I oI C oC D m₂ h tk E' hv hC hx F N off ne
      have hlt : i < xs.length := by omega
      obtain ⟨t, e⟩ := strs_get hi i hlt
      have hv' : v = .str xs[i] t := by
        have e' : its[i]? = some (.str xs[i] t) := by simpa using e
        rw [e'] at hv; exact (Option.some.inj hv).symm
      rw [hv'] at hx
      refine wpAny_mono (turn xs[i] t I oI C oC D m₂ ys h tk E' (List.getElem_mem hlt) hC hx F N off ne) (fun y s₂ hq => ?_) fun _ _ e => e
      obtain ⟨h', tk', nw, e, F', N', off', hS, hn, t', hy'⟩ := hq
      rw [hn] at N' off' hS
      refine ⟨h', tk', news, e, F', N', off', hS, ?_⟩
      rw [hy']
      refine ih (i + 1) _ (by omega) ?_
      rw [show xs.take (i + 1) = xs.take i ++ [xs[i]] by rw [List.take_add_one, List.getElem?_eq_getElem hlt]; rfl, List.map_append]
      exact kct_snoc hy
  exact key _ 0 [] (by omega) (by simp only [List.take_zero, List.map_nil]; exact .nil)
theorem crT_strs {its : Array Value} {xs : List PySem.Str} (p : PySem.Str → Bool) (hi : StrsAre its.toList xs)
    (turn : ∀ x t I oI C oC D m₂ ys h tk (E' : Value → Shared → Prop), x ∈ xs → LCg.NsObj oC m₂ → m₂ xn = some (.str x t) → Fr h₀ L h m → News h₀ L h ((I, oI) :: (C, oC) :: (D, LCg.lst ys) :: news) → LCg.Off3 I C D news → ((@Ne Nat I C) ∧ (@Ne Nat I D) ∧ (@Ne Nat C D)) →
      wpAny (model prog w) A (isTrue ct (compEnvC scope cl C env) (eval ct (compEnvC scope cl C env))) (fun ok s' => if ok = true then
        wpAny (model prog w) A (eval elt (compEnvC scope cl C env)) (LCg.CompEnd h₀ L m { s with heap := h, toks := tk } I oI C oC D (LCg.lst ys) S (fun y news' => FEl news (p x) x y news')) E' s'
        else LCg.CompEnd h₀ L m { s with heap := h, toks := tk } I oI C oC D (LCg.lst ys) S (fun _ news' => FNo news (p x) news') Value.none s') E' { s with heap := h, toks := tk })
    (fin : ∀ ys, StrsAre ys (xs.filter p) → Fin ys news) : LCt.CompRestT prog w A h₀ L m env ct elt xn scope cl s S (fun i v => its[i]? = some v) Fin its.size 0 [] news := by
  have hsz : its.size = xs.length := by have := strs_len hi; rwa [Array.length_toList] at this
  have key : ∀ (j i : Nat) (ys : List Value), i + j = its.size → StrsAre ys ((xs.take i).filter p) → LCt.CompRestT prog w A h₀ L m env ct elt xn scope cl s S (fun i v => its[i]? = some v) Fin j i ys news := by
    intro j
    induction j with
    | zero =>
      intro i ys hi' hy
      have e : i = xs.length := by omega
      subst e
      rw [List.take_length] at hy
      exact LCt.CompRestT.zero (fin ys hy)
    | succ j ih =>
      intro i ys hi' hy
      refine LCt.CompRestT.succ ?_
      intro v I oI C oC D m₂ h tk E' hv hC hx F N off ne
      have hlt : i < xs.length := by omega
      obtain ⟨t, e⟩ := strs_get hi i hlt
      have hv' : v = .str xs[i] t := by
        have e' : its[i]? = some (.str xs[i] t) := by simpa using e
        rw [e'] at hv; exact (Option.some.inj hv).symm
      rw [hv'] at hx
      have htk : xs.take (i + 1) = xs.take i ++ [xs[i]] := by rw [List.take_add_one, List.getElem?_eq_getElem hlt]; rfl
      refine wpAny_mono (turn xs[i] t I oI C oC D m₂ ys h tk E' (List.getElem_mem hlt) hC hx F N off ne) (fun ok s₂ hq => ?_) fun _ _ e => e
      cases ok with
      | true =>
        rw [if_pos rfl] at hq ⊢
        refine wpAny_mono hq (fun y s₃ hq => ?_) fun _ _ e => e
        obtain ⟨h', tk', nw, e, F', N', off', hS, hn, hp, t', hy'⟩ := hq
        rw [hn] at N' off' hS
        refine ⟨h', tk', news, e, F', N', off', hS, ?_⟩
        rw [hy']
        refine ih (i + 1) _ (by omega) ?_
        rw [htk, List.filter_append, List.filter_cons_of_pos hp]
        exact kct_snoc hy
      | false =>
        rw [if_neg (by decide)] at hq ⊢
        obtain ⟨h', tk', nw, e, F', N', off', hS, hn, hp⟩ := hq
        rw [hn] at N' off' hS
        refine ⟨h', tk', news, e, F', N', off', hS, ?_⟩
        refine ih (i + 1) _ (by omega) ?_
        rw [htk, List.filter_append, List.filter_cons_of_neg (by rw [hp]; decide)]
        simpa using hy
  exact key _ 0 [] (by omega) (by simp only [List.take_zero, List.filter_nil]; exact .nil)
end
end Mine
end
section
open PySem PySem.W PyProof.Rows PySem.Calls PySem.Spec
set_option maxRecDepth 100000
namespace Mine
def slc (words : List PySem.Str) (i j : Nat) : List PySem.Str := (words.take j).drop i
/-- an obstacle, as the told table asks -/
def badT (mxl : Int) (a1 a2 a3 : PySem.Str) (ws : List PySem.Str) : Bool := decide (((Txt.lower (txt ws)).length : Int) > mxl) || !([a1, a2, a3].filter fun x => Txt.contains (Txt.lower (txt ws)) (Txt.lower x)).isEmpty
def bestT (bad : Nat → Nat → Bool) (most : List Int) (j : Nat) : Nat → Int
  | 0 => most.getD (j - 1) 0
  | i + 1 => if bad i j then (if 1 + most.getD (i + 1) 0 > bestT bad most j i then 1 + most.getD (i + 1) 0 else bestT bad most j i) else bestT bad most j i
def mostT (bad : Nat → Nat → Bool) : Nat → List Int
  | 0 => [0, 0]
  | t + 1 => mostT bad t ++ [bestT bad (mostT bad t) (t + 2) (t + 1)]
theorem mostT_len (bad : Nat → Nat → Bool) : ∀ t, (mostT bad t).length = t + 2
  | 0 => rfl
  | t + 1 => by rw [mostT, List.length_append, mostT_len bad t]; rfl
theorem bestT_ge (bad : Nat → Nat → Bool) (most : List Int) (j : Nat) : ∀ i, most.getD (j - 1) 0 ≤ bestT bad most j i
  | 0 => Int.le_refl _
  | i + 1 => by
    have := bestT_ge bad most j i
    unfold bestT
    split
    · split <;> omega
    · exact this
theorem mostT_old (bad : Nat → Nat → Bool) {t i : Nat} (h : i < t + 2) : (mostT bad (t + 1)).getD i 0 = (mostT bad t).getD i 0 := by
  rw [mostT]
  simp only [List.getD_eq_getElem?_getD]
  rw [List.getElem?_append_left (by rw [mostT_len]; exact h)]
theorem mostT_new (bad : Nat → Nat → Bool) {t : Nat} : (mostT bad (t + 1)).getD (t + 2) 0 = bestT bad (mostT bad t) (t + 2) (t + 1) := by
  rw [mostT]
  simp only [List.getD_eq_getElem?_getD]
  rw [List.getElem?_append_right (by rw [mostT_len]; exact Nat.le_refl _), mostT_len, Nat.sub_self]; rfl
theorem bestT_le (bad : Nat → Nat → Bool) (most : List Int) (j B : Nat) (h0 : most.getD (j - 1) 0 ≤ B) (h : ∀ i, i < j → most.getD i 0 ≤ B - 1) : ∀ i, i + 1 ≤ j → bestT bad most j i ≤ B
  | 0, _ => h0
  | i + 1, hi => by
    have h1 := bestT_le bad most j B h0 h i (by omega)
    have h2 := h (i + 1) (by omega)
    unfold bestT
    split
    · split <;> omega
    · exact h1
theorem mostT_facts (bad : Nat → Nat → Bool) : ∀ t, (∀ i, i < t + 2 → 0 ≤ (mostT bad t).getD i 0 ∧ (mostT bad t).getD i 0 ≤ i) ∧ ∀ i, i + 1 < t + 2 → (mostT bad t).getD i 0 ≤ (mostT bad t).getD (i + 1) 0
  | 0 => by
    refine ⟨fun i hi => ?_, fun i hi => ?_⟩
    · rcases (by omega : i = 0 ∨ i = 1) with rfl | rfl <;> simp [mostT]
    · have : i = 0 := by omega
      subst this; simp [mostT]
  | t + 1 => by
    obtain ⟨h1, h2⟩ := mostT_facts bad t
    have hn : (mostT bad (t + 1)).getD (t + 2) 0 = bestT bad (mostT bad t) (t + 2) (t + 1) := mostT_new bad
    have hg := bestT_ge bad (mostT bad t) (t + 2) (t + 1)
    rw [show t + 2 - 1 = t + 1 from rfl] at hg
    have hl := bestT_le bad (mostT bad t) (t + 2) (t + 2) (by have := (h1 (t + 1) (by omega)).2; rw [show t + 2 - 1 = t + 1 from rfl]; push_cast at this ⊢; omega)
      (fun i hi => by have := (h1 i hi).2; push_cast at this ⊢; omega) (t + 1) (by omega)
    refine ⟨fun i hi => ?_, fun i hi => ?_⟩
    · by_cases h : i < t + 2
      · rw [mostT_old bad h]; exact h1 i h
      · have : i = t + 2 := by omega
        subst this
        rw [hn]
        have := (h1 (t + 1) (by omega)).1
        exact ⟨by omega, hl⟩
    · by_cases h : i + 1 < t + 2
      · rw [mostT_old bad h, mostT_old bad (by omega)]; exact h2 i h
      · have : i = t + 1 := by omega
        subst this
        rw [show t + 1 + 1 = t + 2 from rfl, hn, mostT_old bad (by omega)]
        exact hg
theorem pick_ij {xs : List Value} {i j : Nat} (hi : i ≤ j) (hj : j ≤ xs.length) : kms_pick xs (some (i : Int)) (some (j : Int)) = (xs.take j).drop i := by
  unfold kms_pick kms_lo kms_hi
  dsimp only
  rw [if_neg (by omega), if_neg (by omega)]
  simp only [Int.toNat_natCast]
  rw [Nat.min_eq_left hj, Nat.min_eq_left (Nat.le_trans hi hj)]
  exact List.drop_take.symm
theorem strs_slc {vs : List Value} {ys : List PySem.Str} (h : StrsAre vs ys) : ∀ i j, StrsAre ((vs.take j).drop i) ((ys.take j).drop i) := by
  have ht : ∀ {vs ys} (h : StrsAre vs ys) j, StrsAre (vs.take j) (ys.take j) := by
    intro vs ys h
    induction h with
    | nil => intro j; simp; exact .nil
    | cons y t _ ih => intro j; cases j with
      | zero => exact .nil
      | succ j => exact .cons y t (ih j)
  have hd : ∀ {vs ys} (h : StrsAre vs ys) i, StrsAre (vs.drop i) (ys.drop i) := by
    intro vs ys h
    induction h with
    | nil => intro j; simp; exact .nil
    | cons y t h ih => intro j; cases j with
      | zero => exact .cons y t h
      | succ j => exact ih j
  exact fun i j => hd (ht h j) i
section
variable {prog : Program} {w : World} {A : Around} {E : Value → Shared → Prop} {s : Shared} {h₀ : Heap} {L : Addr} {m : PySem.Str → Option Value} {news : List (Addr × Obj)}
/-- words[i:j] -/
theorem slice_ij {value slice : Expr} {l : Addr} {vs : Array Value} {nl : Nat} {i j : Nat} {xs : List PySem.Str} {vl vu : Value} {li lj : Int} {Q : Value → Shared → Prop} (F : Fr h₀ L s.heap m) (N : News h₀ L s.heap news) (hm : (l, W.listOf vs nl) ∈ news)
    (hS : StrsAre vs.toList xs) (pl : IsPart vl (some li)) (pu : IsPart vu (some lj)) (el : li = (i : Int)) (ej : lj = (j : Int)) (hi : i ≤ j) (hj : j ≤ xs.length) (hz : xs.length ≤ 1000)
    (h : ∀ D zs h', StrsAre zs.toList (slc xs i j) → Fr h₀ L h' m → News h₀ L h' ((D, W.listOf zs 0) :: news) → (∀ p ∈ news, p.1 < D) → Q (.ref D) { s with heap := h' })
    (hs : subscripted slice false (.ref l) (.ref s.heap.objs.size) = operate [.ref s.heap.objs.size, .ref l] (getItem (.ref l) (.ref s.heap.objs.size))) (ht : ∀ r, letTemporaryGo value (.ref l) r = pure ()) :
    wpAny (model prog w) A (subscriptTail value slice (.ref l) (.ref s.heap.objs.size)) Q E { s with heap := s.heap.push { cls := .type "slice", data := .fields #[vl, vu, .none] } } := by
  subst el; subst ej
  have hlen := strs_len hS
  refine kms_slice_lit F N (isList_news N hm) pl pu (pick_ij hi (by rw [hlen]; exact hj)) (fun D h' F' N' l1 => h D _ h' ?_ F' N' l1) hs ht (by rw [sizeLine_eq]; rw [Array.length_toList] at hlen; omega)
  exact strs_slc hS i j
theorem ne_nil {a b : Addr} {vs : Array Value} {na nb : Nat} {xs : List PySem.Str} {Q : Value → Shared → Prop} (N : News h₀ L s.heap news) (hm : (a, W.listOf vs na) ∈ news) (hb : (b, W.listOf #[] nb) ∈ news) (hS : StrsAre vs.toList xs) (hok : ∀ x ∈ xs, PyData.strOk x = true)
    (hu : A.units + 64 < cLine) (h : Q (.bool (!xs.isEmpty)) s) : wpAny (model prog w) A (compareOp .NotEq (.ref a) (.ref b)) Q E s := by
  have hR : ∀ {vs : List Value} {xs : List PySem.Str}, StrsAre vs xs → ReadsAll s.heap vs (xs.map PyData.str) [] := by
    intro vs xs h
    induction h with
    | nil => exact .nil
    | cons y t _ ih => exact ReadsAll.cons (Reads.str _ _) ih
  have hC : ∀ xs : List PySem.Str, (∀ x ∈ xs, PyData.strOk x = true) → PyData.canLayAll0 (xs.map PyData.str) = true ∧ PyData.depthAll (xs.map PyData.str) = 0 := by
    intro xs
    induction xs with
    | nil => intro _; exact ⟨rfl, rfl⟩
    | cons a r ih =>
      intro hk
      obtain ⟨h1, h2⟩ := ih fun x hx => hk x (.tail _ hx)
      have h3 := hk a (.head _)
      refine ⟨?_, ?_⟩
      · rw [List.map_cons, PyData.canLayAll0, h1]
        simp [PyData.canLay0, h3]
      · rw [List.map_cons, PyData.depthAll, h2]
        simp [PyData.depth]
  obtain ⟨h1, h2⟩ := hC xs hok
  refine ne_dataH (reads_list_at (N _ hm).1 rfl rfl (hR hS)) (reads_list_at (N _ hb).1 rfl rfl ReadsAll.nil) (by simp [SeqAt.shaped, PyData.canLay0, PyData.depth, h1, h2]) (by decide) hu ?_
  have e : PyData.eqv (.list (xs.map PyData.str)) (.list []) = xs.isEmpty := by
    cases xs with
    | nil => simp [PyData.eqv, PyData.eqvAll]
    | cons a r => simp [PyData.eqv, PyData.eqvAll]
  rw [e]
  exact h
end
end Mine
end
section
open PySem PySem.W PyProof.Rows PySem.Calls PySem.Spec
set_option maxRecDepth 100000
namespace Mine
section
variable {prog : Program} {w : World} {A : Around} {E : Value → Shared → Prop} {s : Shared} {env : Env} {h₀ : Heap} {L : Addr} {m : PySem.Str → Option Value} {news : List (Addr × Obj)}
theorem range1_K {b : Int} {u : Tok} {Q : Value → Shared → Prop} (F : Fr h₀ L s.heap m) (N : News h₀ L s.heap news)
    (h : ∀ R h' tk t₁ u₁ v₁, Fr h₀ L h' m → News h₀ L h' ((R, rangeObj 0 b 1 t₁ u₁ v₁) :: news) → (∀ p ∈ news, p.1 < R) → Q (.ref R) { s with heap := h', toks := tk }) :
    wpAny (model prog w) A (call (.type "range") [.int b u]) Q E s :=
  call_range_1 (h _ _ _ _ _ _ (F.push _) (News.push F N (rangeObj 0 b 1 _ _ _)) fun p hq => Heap.lt_size (N p hq).1)
theorem range2_K {a b : Int} {t u : Tok} {Q : Value → Shared → Prop} (F : Fr h₀ L s.heap m) (N : News h₀ L s.heap news)
    (h : ∀ R h' tk t₁ u₁ v₁, Fr h₀ L h' m → News h₀ L h' ((R, rangeObj a b 1 t₁ u₁ v₁) :: news) → (∀ p ∈ news, p.1 < R) → Q (.ref R) { s with heap := h', toks := tk }) :
    wpAny (model prog w) A (call (.type "range") [.int a t, .int b u]) Q E s :=
  call_range_2 (h _ _ _ _ _ _ (F.push _) (News.push F N (rangeObj a b 1 _ _ _)) fun p hq => Heap.lt_size (N p hq).1)
theorem pyIter_range1_K {r : Addr} {a b : Int} {t u v : Tok} {Q : Value → Shared → Prop} (F : Fr h₀ L s.heap m) (N : News h₀ L s.heap news) (hr : (r, rangeObj a b 1 t u v) ∈ news) (ha : 0 ≤ a) (hab : a ≤ b) (hb : b ≤ 1000)
    (h : ∀ I h', Fr h₀ L h' m → News h₀ L h' ((I, rangeIt a (b - a) 1) :: news) → (∀ p ∈ news, p.1 < I) → Q (.ref I) { s with heap := h' }) : wpAny (model prog w) A (pyIter (.ref r)) Q E s := by
  refine pyIter_range_K F N hr (small_one (by omega) (by omega) (by omega) (by omega)) ?_
  have e : Builtin.Range.rangeSize a b 1 = b - a := by rw [rangeSize_one]; split <;> omega
  rw [e]; exact h
theorem fr_three {g h : Heap} {a b c : PySem.Str} {r : PySem.Str → Option Value} (F : Fr g L h m) (hm : ∀ y, y ≠ a → y ≠ b → y ≠ c → m y = r y) {va vb vc : Option Value} (ea : m a = va) (eb : m b = vb) (ec : m c = vc) :
    Fr g L h (fun y => if y = a then va else if y = b then vb else if y = c then vc else r y) := by
  subst ea; subst eb; subst ec
  have e : (fun y => if y = a then m a else if y = b then m b else if y = c then m c else r y) = m := by
    funext y
    by_cases h1 : y = a
    · rw [if_pos h1, h1]
    · rw [if_neg h1]
      by_cases h2 : y = b
      · rw [if_pos h2, h2]
      · rw [if_neg h2]
        by_cases h3 : y = c
        · rw [if_pos h3, h3]
        · rw [if_neg h3]; exact (hm y h1 h2 h3).symm
  rw [e]; exact F
end
abbrev fTold (ml al wl : Addr) (mxl : Int) (tw : Tok) (y : PySem.Str) : Option Value :=
  if y = Str.ofString "most" then some (Value.ref ml) else if y = Str.ofString "width" then some (Value.int mxl tw) else if y = Str.ofString "agents" then some (Value.ref al) else if y = Str.ofString "words" then some (Value.ref wl) else none
abbrev fT3 (ml al wl : Addr) (mxl : Int) (tw : Tok) (vb vi vj : Option Value) (y : PySem.Str) : Option Value :=
  if y = Str.ofString "best" then vb else if y = Str.ofString "i" then vi else if y = Str.ofString "j" then vj else fTold ml al wl mxl tw y
inductive OInv (bad : Nat → Nat → Bool) (g : Heap) (L : Addr) (s₀ : Shared) (I c ml wl al : Addr) (wvs avs : Array Value) (nw na : Nat) (tw : Tok) (mxl : Int) (n : Nat) (k : Nat) : Shared → Prop
  | mk (t : Nat) (h : Heap) (tk : Nat) (oc : Obj) (cv : Option Value) (mvs : Array Value) (nm : Nat) (xo bo : Int) (vb vi vj : Option Value)
      (ht : t + k = n - 1) (hx : xo = 2 + (t : Int)) (hb : bo = (k : Int)) (F : Fr g L h (fT3 ml al wl mxl tw vb vi vj))
      (N : News g L h [(I, rangeIt xo bo 1), (c, oc), (ml, W.listOf mvs nm), (wl, W.listOf wvs nw), (al, W.listOf avs na)]) (hoc : oc.data = .cell cv) (hM : IntsAre mvs.toList (mostT bad t)) :
      OInv bad g L s₀ I c ml wl al wvs avs nw na tw mxl n k ⟨h, s₀.gens, s₀.drawn, tk, s₀.os⟩
inductive IInv (bad : Nat → Nat → Bool) (g : Heap) (L : Addr) (s₀ : Shared) (I2 I c ml wl al : Addr) (wvs avs mvs : Array Value) (nw na nm : Nat) (tw tj : Tok) (mxl xo bo xj : Int) (t : Nat) (k : Nat) : Shared → Prop
  | mk (i : Nat) (h : Heap) (tk : Nat) (oc : Obj) (cv : Option Value) (xi bi : Int) (tb : Tok) (vi : Option Value)
      (hi : i + k = t + 1) (hx : xi = (i : Int)) (hb : bi = (k : Int)) (F : Fr g L h (fT3 ml al wl mxl tw (some (.int (bestT bad (mostT bad t) (t + 2) i) tb)) vi (some (.int xj tj))))
      (N : News g L h [(I2, rangeIt xi bi 1), (I, rangeIt xo bo 1), (c, oc), (ml, W.listOf mvs nm), (wl, W.listOf wvs nw), (al, W.listOf avs na)]) (hoc : oc.data = .cell cv) :
      IInv bad g L s₀ I2 I c ml wl al wvs avs mvs nw na nm tw tj mxl xo bo xj t k ⟨h, s₀.gens, s₀.drawn, tk, s₀.os⟩
section
variable {prog : Program} {w : World} {A : Around} {E : Value → Shared → Prop} {s : Shared} {env : Env} {x : PySem.Str} {px : Pos} {body orelse : List Stmt} {Q : Flow → Shared → Prop} {g : Heap} {L : Addr} {m : PySem.Str → Option Value}
theorem outer_start (bad : Nat → Nat → Bool) (n : Nat) {I c ml wl al : Addr} {wvs avs mvs : Array Value} {nw na nm : Nat} {tw : Tok} {mxl a b : Int} {oc : Obj} {cv : Option Value}
    (F : Fr g L s.heap (fTold ml al wl mxl tw)) (N : News g L s.heap [(I, rangeIt a b 1), (c, oc), (ml, W.listOf mvs nm), (wl, W.listOf wvs nw), (al, W.listOf avs na)]) (hoc : oc.data = .cell cv) (hM : IntsAre mvs.toList [0, 0]) (ha : a = 2) (hb : b = ((n - 1 : Nat) : Int))
    (hz : Hold (∀ s₁, OInv bad g L s I c ml wl al wvs avs nw na tw mxl n 0 s₁ → wpAny (model prog w) A (pyNext (.ref I)) (fun r s₂ => r = none ∧ wpAny (model prog w) A (execs orelse env) Q E s₂) E s₁))
    (hs : Hold (∀ k s₁, OInv bad g L s I c ml wl al wvs avs nw na tw mxl n (k + 1) s₁ → wpAny (model prog w) A (pyNext (.ref I)) (fun r s₂ => ∃ v, r = some v ∧ wpAny (model prog w) A (assign (.Name x px) env v) (fun _ s₃ => wpAny (model prog w) A (execs body env) (fun f s₄ => match f with
      | .next | .cont => OInv bad g L s I c ml wl al wvs avs nw na tw mxl n k s₄
      | .brk => Q .next s₄
      | .ret v => Q (.ret v) s₄) E s₃) E s₂) E s₁)) :
    ∃ k, Turns prog w A E env x px body orelse (.ref I) Q k s := by
  refine ⟨n - 1, turns_ind (fun k s₁ => OInv bad g L s I c ml wl al wvs avs nw na tw mxl n k s₁) hz.get hs.get _ _ ?_⟩
  obtain ⟨h, gs, d, tk, os⟩ := s
  refine OInv.mk 0 h tk oc cv mvs nm a b _ _ _ (by omega) (by omega) hb (fr_three F (fun y _ _ _ => rfl) rfl rfl rfl) N hoc hM
theorem inner_start (bad : Nat → Nat → Bool) (t : Nat) {I2 I c ml wl al : Addr} {wvs avs mvs : Array Value} {nw na nm : Nat} {tw tj tb : Tok} {mxl a b b0 xo bo xj : Int} {oc : Obj} {cv : Option Value}
    (F : Fr g L s.heap m) (em : m (Str.ofString "most") = some (.ref ml)) (eb : m (Str.ofString "best") = some (.int b0 tb)) (ej : m (Str.ofString "j") = some (.int xj tj))
    (hm : ∀ y, y ≠ Str.ofString "best" → y ≠ Str.ofString "i" → y ≠ Str.ofString "j" → m y = fTold ml al wl mxl tw y)
    (N : News g L s.heap [(I2, rangeIt a b 1), (I, rangeIt xo bo 1), (c, oc), (ml, W.listOf mvs nm), (wl, W.listOf wvs nw), (al, W.listOf avs na)]) (hoc : oc.data = .cell cv) (hb0 : b0 = (mostT bad t).getD (t + 1) 0) (ha : a = 0) (hb : b = ((t + 1 : Nat) : Int))
    (hz : Hold (∀ s₁, IInv bad g L s I2 I c ml wl al wvs avs mvs nw na nm tw tj mxl xo bo xj t 0 s₁ → wpAny (model prog w) A (pyNext (.ref I2)) (fun r s₂ => r = none ∧ wpAny (model prog w) A (execs orelse env) Q E s₂) E s₁))
    (hs : Hold (∀ k s₁, IInv bad g L s I2 I c ml wl al wvs avs mvs nw na nm tw tj mxl xo bo xj t (k + 1) s₁ → wpAny (model prog w) A (pyNext (.ref I2)) (fun r s₂ => ∃ v, r = some v ∧ wpAny (model prog w) A (assign (.Name x px) env v) (fun _ s₃ => wpAny (model prog w) A (execs body env) (fun f s₄ => match f with
      | .next | .cont => IInv bad g L s I2 I c ml wl al wvs avs mvs nw na nm tw tj mxl xo bo xj t k s₄
      | .brk => Q .next s₄
      | .ret v => Q (.ret v) s₄) E s₃) E s₂) E s₁)) :
    ∃ k, Turns prog w A E env x px body orelse (.ref I2) Q k s := by
  refine ⟨t + 1, turns_ind (fun k s₁ => IInv bad g L s I2 I c ml wl al wvs avs mvs nw na nm tw tj mxl xo bo xj t k s₁) hz.get hs.get _ _ ?_⟩
  obtain ⟨h, gs, d, tk, os⟩ := s
  subst hb0
  exact IInv.mk 0 h tk oc cv a b tb _ (by omega) (by omega) hb (fr_three F hm eb rfl ej) N hoc
end
end Mine
end
section
open PySem PySem.W PyProof.Rows PySem.Calls PySem.Spec
set_option maxRecDepth 100000
namespace Mine
theorem slc_mem {words : List PySem.Str} {i j : Nat} {u : PySem.Str} (h : u ∈ slc words i j) : u ∈ words := List.mem_of_mem_take (List.mem_of_mem_drop h)
theorem slc_wd {words : List PySem.Str} {i j : Nat} (hw : ∀ u ∈ words, Wd u) {u : PySem.Str} (h : u ∈ slc words i j) : Wd u := hw u (slc_mem h)
theorem best_yes {bad : Nat → Nat → Bool} {most : List Int} {j i : Nat} (h : bad i j = true) : (if 1 + most.getD ((i : Int) + 1).toNat 0 > bestT bad most j i then 1 + most.getD ((i : Int) + 1).toNat 0 else bestT bad most j i) = bestT bad most j (i + 1) := by
  rw [show ((i : Int) + 1).toNat = i + 1 by omega]
  conv => rhs; unfold bestT
  rw [if_pos h]
theorem best_no {bad : Nat → Nat → Bool} {most : List Int} {j i : Nat} (h : bad i j = false) : bestT bad most j i = bestT bad most j (i + 1) := by
  conv => rhs; unfold bestT
  rw [if_neg (by rw [h]; decide)]
theorem bad_lt {mxl : Int} {a1 a2 a3 : PySem.Str} {ws : List PySem.Str} (h : mxl < ((Txt.lower (txt ws)).length : Int)) : badT mxl a1 a2 a3 ws = true := by
  unfold badT; rw [decide_eq_true (by omega), Bool.true_or]
theorem bad_f {mxl : Int} {a1 a2 a3 : PySem.Str} {ws : List PySem.Str} (h : ([a1, a2, a3].filter fun x => Txt.contains (Txt.lower (txt ws)) (Txt.lower x)).isEmpty = false) : badT mxl a1 a2 a3 ws = true := by
  unfold badT; rw [h, Bool.not_false, Bool.or_true]
theorem bad_no {mxl : Int} {a1 a2 a3 : PySem.Str} {ws : List PySem.Str} (h1 : ((Txt.lower (txt ws)).length : Int) ≤ mxl) (h : ([a1, a2, a3].filter fun x => Txt.contains (Txt.lower (txt ws)) (Txt.lower x)).isEmpty = true) : badT mxl a1 a2 a3 ws = false := by
  unfold badT; rw [h, decide_eq_false (by omega)]; rfl
theorem slc_len {words : List PySem.Str} {i j : Nat} : (slc words i j).length ≤ words.length := by
  unfold slc; rw [List.length_drop, List.length_take]; omega
theorem ints_push {vs : Array Value} {ns : List Int} {n : Int} {t : Tok} (h : IntsAre vs.toList ns) : IntsAre (vs.push (.int n t)).toList (ns ++ [n]) := by
  rw [Array.toList_push]
  have : ∀ {vs ns}, IntsAre vs ns → IntsAre (vs ++ [.int n t]) (ns ++ [n]) := by
    intro vs ns h
    induction h with
    | nil => exact .cons _ _ .nil
    | cons y' t' _ ih => exact .cons _ _ ih
  exact this h
def Off3A (I C D : Addr) : List (Addr × Obj) → Prop
  | [] => True
  | p :: r => NeA p.1 I ∧ NeA p.1 C ∧ NeA p.1 D ∧ Off3A I C D r
theorem off3A {I C D : Addr} : ∀ {l : List (Addr × Obj)}, LCg.Off3 I C D l → Off3A I C D l
  | [], _ => trivial
  | _ :: _, x => ⟨x.1.1, x.1.2.1, x.1.2.2, off3A x.2⟩
def Off1A (D : Addr) : List (Addr × Obj) → Prop
  | [] => True
  | p :: r => NeA p.1 D ∧ Off1A D r
theorem off1A {D : Addr} : ∀ {l : List (Addr × Obj)}, LCg.Off1 D l → Off1A D l
  | [], _ => trivial
  | _ :: _, x => ⟨x.1, off1A x.2⟩
theorem ne3A {I C D : Addr} (h : (@Ne Nat I C) ∧ (@Ne Nat I D) ∧ (@Ne Nat C D)) : NeA I C ∧ NeA I D ∧ NeA C D := h
section
variable {prog : Program} {w : World} {A : Around} {E : Value → Shared → Prop} {s : Shared} {env : Env} {h₀ : Heap} {L : Addr} {m : PySem.Str → Option Value} {news : List (Addr × Obj)} {elt ct : Expr} {xn : PySem.Str} {scope : Scope} {cl : List (PySem.Str × Addr)}
theorem comp_strs {Fin : Shared → List Value → List (Addr × Obj) → Prop} {ax : Addr} {zs : Array Value} {k : Nat} {xs : List PySem.Str} (g : PySem.Str → PySem.Str)
    (hh : A.handled = none) (F : Fr h₀ L s.heap m) (N : News h₀ L s.heap news) (hm : (ax, W.listOf zs k) ∈ news) (hS : StrsAre zs.toList xs) (hz : xs.length ≤ 1000)
    (turn : ∀ G x t I oI C oC D m₂ ys h tk (E' : Value → Shared → Prop), x ∈ xs → LCg.NsObj oC m₂ → m₂ xn = some (.str x t) → Fr h₀ L h m → News h₀ L h ((I, oI) :: (C, oC) :: (D, LCg.lst ys) :: news) → LCg.Off3 I C D news → ((@Ne Nat I C) ∧ (@Ne Nat I D) ∧ (@Ne Nat C D)) →
      wpAny (model prog w) A (eval elt (compEnvC scope cl C env)) (LCg.CompEnd h₀ L m { s with heap := h, toks := tk } I oI C oC D (LCg.lst ys) (LCg.SrcAt h₀ ax zs) (fun y news' => SEl news (g x) y news')) E' { { s with heap := G } with heap := h, toks := tk })
    (fin : ∀ G ys, StrsAre ys (xs.map g) → Fin { s with heap := G } ys news) : LCg.CompSrc prog w A h₀ L m env elt xn scope cl Fin (.ref ax) s :=
  LCg.CompSrc.ledger hh F N hm (by have := strs_len hS; rw [Array.length_toList] at this; rw [sizeLine_eq]; omega) fun G => cr_strs g hS (fun x t I oI C oC D m₂ ys h tk E' => turn G x t I oI C oC D m₂ ys h tk E') (fin G)
structure PHint (p : PySem.Str → Bool) : Prop where
  u : True
theorem comp_filter {Fin : Shared → List Value → List (Addr × Obj) → Prop} {ax : Addr} {zs : Array Value} {k : Nat} {xs : List PySem.Str} (p : PySem.Str → Bool) (_ph : PHint p) (hh : A.handled = none)
    (F : Fr h₀ L s.heap m) (N : News h₀ L s.heap news) (hm : (ax, W.listOf zs k) ∈ news) (hS : StrsAre zs.toList xs) (hl : ∀ x ∈ xs, x.length ≤ 1000) (hz : xs.length ≤ 1000)
    (turn : ∀ G x t I oI C oC D m₂ ys h tk (E' : Value → Shared → Prop), x.length ≤ 1000 → x ∈ xs → LCg.NsObj oC m₂ → m₂ xn = some (.str x t) → Fr h₀ L h m → News h₀ L h ((I, oI) :: (C, oC) :: (D, LCg.lst ys) :: news) → LCg.Off3 I C D news → ((@Ne Nat I C) ∧ (@Ne Nat I D) ∧ (@Ne Nat C D)) →
      wpAny (model prog w) A (isTrue ct (compEnvC scope cl C env) (eval ct (compEnvC scope cl C env))) (fun ok s' => if ok = true then
        wpAny (model prog w) A (eval elt (compEnvC scope cl C env)) (LCg.CompEnd h₀ L m { s with heap := h, toks := tk } I oI C oC D (LCg.lst ys) (LCg.SrcAt h₀ ax zs) (fun y news' => FEl news (p x) x y news')) E' s'
        else LCg.CompEnd h₀ L m { s with heap := h, toks := tk } I oI C oC D (LCg.lst ys) (LCg.SrcAt h₀ ax zs) (fun _ news' => FNo news (p x) news') Value.none s') E' { { s with heap := G } with heap := h, toks := tk })
    (fin : ∀ G ys, StrsAre ys (xs.filter p) → Fin { s with heap := G } ys news) : LCt.CompSrcT prog w A h₀ L m env ct elt xn scope cl Fin (.ref ax) s :=
  LCt.CompSrcT.ledger hh F N hm (by have := strs_len hS; rw [Array.length_toList] at this; rw [sizeLine_eq]; omega) fun G => crT_strs p hS (fun x t I oI C oC D m₂ ys h tk E' => fun hx => turn G x t I oI C oC D m₂ ys h tk E' (hl x hx) hx) (fin G)
theorem ne_nil_f {a b : Addr} {vs : Array Value} {na nb : Nat} {xs : List PySem.Str} {p : PySem.Str → Bool} {Q : Value → Shared → Prop} (N : News h₀ L s.heap news) (hm : (a, W.listOf vs na) ∈ news) (hb : (b, W.listOf #[] nb) ∈ news) (hS : StrsAre vs.toList (xs.filter p)) (hok : ∀ x ∈ xs, PyData.strOk x = true)
    (hu : A.units + 64 < cLine) (h : Q (.bool (!(xs.filter p).isEmpty)) s) : wpAny (model prog w) A (compareOp .NotEq (.ref a) (.ref b)) Q E s :=
  ne_nil N hm hb hS (fun x hx => hok x (List.mem_filter.mp hx).1) hu h
theorem item_last {value slice : Expr} {l : Addr} {vs : Array Value} {nl : Nat} {ns : List Int} {u : Tok} {Q : Value → Shared → Prop} (N : News h₀ L s.heap news) (hm : (l, W.listOf vs nl) ∈ news) (hM : IntsAre vs.toList ns) (hn : 1 ≤ ns.length)
    (h : ∀ t, Q (.int (ns.getD (ns.length - 1) 0) t) s)
    (hs : subscripted slice false (.ref l) (.int (-1) u) = operate [.ref l, .int (-1) u] (getItem (.ref l) (.int (-1) u)) := by with_unfolding_all rfl) :
    wpAny (model prog w) A (subscriptTail value slice (.ref l) (.int (-1) u)) Q E s := by
  have hl : s.heap.IsList l vs.toList.toArray := by rw [Array.toArray_toList]; exact isList_news N hm
  refine item_list_ints_negR hl hM (by decide) (by omega) (by decide) (fun t => ?_) hs
  rw [show ((-1 : Int) + (ns.length : Int)).toNat = ns.length - 1 by omega]
  exact h t
theorem join_words {D : Addr} {ys : List Value} {xs : List PySem.Str} {t : Tok} {Q : Value → Shared → Prop} (N : News h₀ L s.heap news) (hm : (D, LCg.lst ys) ∈ news) (hS : StrsAre ys (xs.map fun x => Str.ofString " " ++ x)) (hw : ∀ u ∈ xs, Wd u) (hz : xs.length ≤ 1000)
    (h : ∀ t' k, Q (.str (txt xs) t') { s with toks := k }) : wpAny (model prog w) A (call (.builtin "str.join") [.str (Str.ofString "") t, .ref D]) Q E s := by
  have hl : s.heap.IsList D ys.toArray := ⟨_, (N _ hm).1, rfl, _, rfl⟩
  have h0 : (Str.ofString "").length = 0 := by decide +kernel
  have h1 : (Str.ofString " ").length = 1 := by decide +kernel
  have hb : ∀ xs : List PySem.Str, (∀ u ∈ xs, Wd u) → ((xs.map fun x => Str.ofString " " ++ x).map (·.length)).sum ≤ 4 * xs.length := by
    intro xs
    induction xs with
    | nil => intro _; simp
    | cons a r ih =>
      intro hw
      have i1 := ih fun u hu => hw u (.tail _ hu)
      have i2 := (hw a (.head _)).len.2
      simp only [List.map_cons, List.sum_cons, List.length_cons, PySem.Str.length_append, h1]
      omega
  refine join_list (ys := xs.map fun x => Str.ofString " " ++ x) hl hS (by have := hb xs hw; rw [h0]; omega) fun t' k => h t' k
end
end Mine
end
section
open PySem PySem.W PyProof.Rows PySem.Calls PySem.Spec
set_option maxRecDepth 100000
namespace Mine
def rowsT (words : List PySem.Str) (most : List Int) : Nat → List PySem.Str
  | 0 => List.replicate (most.getD (most.length - 1) 0 + 1).toNat (Str.ofString "")
  | q + 1 => (rowsT words most q).set (most.getD (q + 1) 0).toNat ((rowsT words most q).getD (most.getD (q + 1) 0).toNat (Str.ofString "") ++ (Str.ofString " " ++ words.getD q (Str.ofString "")))
theorem mostT_mono (bad : Nat → Nat → Bool) (t : Nat) : ∀ d i, i + d < t + 2 → (mostT bad t).getD i 0 ≤ (mostT bad t).getD (i + d) 0
  | 0, _, _ => Int.le_refl _
  | d + 1, i, h => Int.le_trans (mostT_mono bad t d i (by omega)) ((mostT_facts bad t).2 (i + d) (by omega))
theorem rowsT_len (words : List PySem.Str) (most : List Int) : ∀ q, (rowsT words most q).length = (most.getD (most.length - 1) 0 + 1).toNat
  | 0 => by rw [rowsT, List.length_replicate]
  | q + 1 => by rw [rowsT, List.length_set, rowsT_len words most q]
theorem getD_set_len {B : Nat} {l : List PySem.Str} (h : ∀ i, (l.getD i (Str.ofString "")).length ≤ B) {r : Nat} {y : PySem.Str} {C : Nat} (hBC : B ≤ C) (hy : y.length ≤ C) : ∀ i, ((l.set r y).getD i (Str.ofString "")).length ≤ C := by
  intro i
  simp only [List.getD_eq_getElem?_getD, List.getElem?_set]
  split
  · split
    · simpa using hy
    · have h0 : (Str.ofString "").length = 0 := by decide +kernel
      simp only [Option.getD_none]
      omega
  · have := h i
    rw [List.getD_eq_getElem?_getD] at this
    omega
theorem rowsT_small {words : List PySem.Str} {most : List Int} (hw : ∀ u ∈ words, Wd u) : ∀ q i, ((rowsT words most q).getD i (Str.ofString "")).length ≤ 4 * q
  | 0, i => by
    have h0 : (Str.ofString "").length = 0 := by decide +kernel
    rw [rowsT, List.getD_eq_getElem?_getD, List.getElem?_replicate]
    split
    · simp [h0]
    · simp [h0]
  | q + 1, i => by
    have ih := rowsT_small (most := most) hw q
    rw [rowsT]
    refine getD_set_len (B := 4 * q) ih (by omega) ?_ i
    have h1 : (Str.ofString " ").length = 1 := by decide +kernel
    have h0 : (Str.ofString "").length = 0 := by decide +kernel
    have h2 := ih (most.getD (q + 1) 0).toNat
    have h3 : (words.getD q (Str.ofString "")).length ≤ 3 := by
      rw [List.getD_eq_getElem?_getD]
      cases e : words[q]? with
      | none => simp [h0]
      | some u => exact (hw u (List.mem_of_getElem? e)).len.2
    rw [PySem.Str.length_append, PySem.Str.length_append]
    omega
theorem strs_getD {vs : List Value} {ys : List PySem.Str} (h : StrsAre vs ys) {k : Int} (h0 : 0 ≤ k) (h1 : k < ys.length) : ∃ t, vs[k.toNat]? = some (.str (ys.getD k.toNat (Str.ofString "")) t) := by
  obtain ⟨t, e⟩ := strs_get h k.toNat (by omega)
  refine ⟨t, ?_⟩
  rw [e, List.getD_eq_getElem?_getD, List.getElem?_eq_getElem (by omega)]; rfl
theorem strs_set {vs : List Value} {ys : List PySem.Str} {y : PySem.Str} {t : Tok} (h : StrsAre vs ys) : ∀ i, StrsAre (vs.set i (.str y t)) (ys.set i y) := by
  induction h with
  | nil => intro i; exact .nil
  | cons z u _ ih => intro i; cases i with
    | zero => exact .cons _ _ (by assumption)
    | succ i => exact .cons _ _ (ih i)
theorem foldl_rep (v : Value) : ∀ (n : Nat) (acc : Array Value), (List.foldl (fun x1 x2 => x1 ++ x2) acc (List.replicate n #[v])).toList = acc.toList ++ List.replicate n v
  | 0, acc => by simp
  | n + 1, acc => by
    rw [List.replicate_succ, List.foldl_cons, foldl_rep v n, Array.toList_append]
    simp [List.replicate_succ]
theorem strs_rep (y : PySem.Str) (t : Tok) : ∀ n, StrsAre (List.replicate n (.str y t)) (List.replicate n y)
  | 0 => .nil
  | n + 1 => .cons _ _ (strs_rep y t n)
section
variable {prog : Program} {w : World} {A : Around} {E : Value → Shared → Prop} {s : Shared} {env : Env} {h₀ : Heap} {L : Addr} {m : PySem.Str → Option Value} {news news' : List (Addr × Obj)}
theorem rep_K {l : Addr} {t u : Tok} {k : Nat} {x : Int} {y : PySem.Str} {Q : Value → Shared → Prop} (F : Fr h₀ L s.heap m) (N : News h₀ L s.heap news) (hm : (l, W.listOf #[.str y t] k) ∈ news) (h0 : 0 ≤ x) (h1 : x ≤ 1000)
    (h : ∀ D rv h', StrsAre rv.toList (List.replicate x.toNat y) → Fr h₀ L h' m → News h₀ L h' ((D, W.listOf rv 0) :: news) → (∀ p ∈ news, p.1 < D) → Q (.ref D) { s with heap := h' }) :
    wpAny (model prog w) A (binaryOp .Mult (.ref l) (.int x u)) Q E s := by
  refine mul_list F N (N _ hm).1 (by omega) (by omega) (by simp; omega) fun h' F' N' => h _ _ h' ?_ F' N' fun p hp => Heap.lt_size (N p hp).1
  rw [show (#[Value.str y t] : Array Value).isEmpty = false from rfl, if_neg (by decide), foldl_rep]
  simpa using strs_rep y t x.toNat
theorem item_strs {value slice : Expr} {l : Addr} {vs : Array Value} {nl : Nat} {ys : List PySem.Str} {k : Int} {u : Tok} {Q : Value → Shared → Prop} (N : News h₀ L s.heap news) (hm : (l, W.listOf vs nl) ∈ news) (hS : StrsAre vs.toList ys) (h0 : 0 ≤ k) (h1 : k < ys.length) (hz : k ≤ 1000)
    (h : ∀ t, Q (.str (ys.getD k.toNat (Str.ofString "")) t) s)
    (hs : subscripted slice false (.ref l) (.int k u) = operate [.ref l, .int k u] (getItem (.ref l) (.int k u)) := by with_unfolding_all rfl) (hg : ∀ r, letTemporaryGo value (.ref l) r = pure () := by intro _; with_unfolding_all rfl) :
    wpAny (model prog w) A (subscriptTail value slice (.ref l) (.int k u)) Q E s := by
  obtain ⟨t, e⟩ := strs_getD hS h0 h1
  exact item_list (isList_news N hm) h0 (by omega) (by simpa using e) (h t) hs hg
theorem get_strs {l : Addr} {vs : Array Value} {nl : Nat} {ys : List PySem.Str} {k : Int} {u : Tok} {Q : Value → Shared → Prop} (N : News h₀ L s.heap news) (hm : (l, W.listOf vs nl) ∈ news) (hS : StrsAre vs.toList ys) (h0 : 0 ≤ k) (h1 : k < ys.length) (hz : k ≤ 1000)
    (h : ∀ t, Q (.str (ys.getD k.toNat (Str.ofString "")) t) s) : wpAny (model prog w) A (getItem (.ref l) (.int k u)) Q E s := by
  obtain ⟨t, e⟩ := strs_getD hS h0 h1
  exact wpAny_getItem_list (isList_news N hm) h0 (by omega) (by simpa using e) (h t)
theorem set_strs {l : Addr} {vs : Array Value} {nl : Nat} {ys : List PySem.Str} {k : Int} {u t : Tok} {y : PySem.Str} {news' : Array Value → List (Addr × Obj)} {Q : Unit → Shared → Prop} (F : Fr h₀ L s.heap m) (N : News h₀ L s.heap news) (U : ∀ vs', Upd l (W.listOf vs nl) (W.listOf vs' nl) news (news' vs')) (hS : StrsAre vs.toList ys) (h0 : 0 ≤ k) (h1 : k < ys.length) (hz : k ≤ 1000)
    (h : ∀ vs' h', StrsAre vs'.toList (ys.set k.toNat y) → Fr h₀ L h' m → News h₀ L h' (news' vs') → Q () { s with heap := h' }) : wpAny (model prog w) A (setItem (.ref l) (.int k u) (.str y t)) Q E s := by
  have U' := U (vs.setIfInBounds k.toNat (.str y t))
  have h := h (vs.setIfInBounds k.toNat (.str y t))
  generalize news' (vs.setIfInBounds k.toNat (.str y t)) = nw at U' h
  obtain ⟨pre, post, rfl, rfl, a, b⟩ := U'.split
  have z := N (l, W.listOf vs nl) (List.mem_append.mpr (.inr (.head _)))
  have hl := strs_len hS
  rw [Array.length_toList] at hl
  refine ki_setAt z.1 h0 (by omega) (by omega) (h _ ?_ (F.change (Heap.SameBut.update ..) z.2.1 z.2.2) (ki_turn _ N a b rfl (by simp)))
  rw [Array.toList_setIfInBounds]
  exact strs_set hS _
theorem fr_one {g h : Heap} {a : PySem.Str} {r : PySem.Str → Option Value} {va : Option Value} (F : Fr g L h m) (hm : ∀ y, y ≠ a → m y = r y) (ea : m a = va) : Fr g L h (fun y => if y = a then va else r y) := by
  subst ea
  have e : (fun y => if y = a then m a else r y) = m := by
    funext y
    by_cases h1 : y = a
    · rw [if_pos h1, h1]
    · rw [if_neg h1]; exact (hm y h1).symm
  rw [e]; exact F
end
inductive RInv (m₀ : PySem.Str → Option Value) (words : List PySem.Str) (most : List Int) (g : Heap) (L : Addr) (s₀ : Shared) (I ml rl wl al : Addr) (wvs avs mvs : Array Value) (nw na nm : Nat) (n : Nat) (k : Nat) : Shared → Prop
  | mk (q : Nat) (h : Heap) (tk : Nat) (rvs : Array Value) (nr : Nat) (xi bi : Int) (vj : Option Value)
      (hq : q + k = n) (hx : xi = (q : Int)) (hb : bi = (k : Int)) (F : Fr g L h (fun y => if y = Str.ofString "j" then vj else m₀ y))
      (N : News g L h [(I, rangeIt xi bi 1), (rl, W.listOf rvs nr), (ml, W.listOf mvs nm), (wl, W.listOf wvs nw), (al, W.listOf avs na)]) (hS : StrsAre rvs.toList (rowsT words most q)) :
      RInv m₀ words most g L s₀ I ml rl wl al wvs avs mvs nw na nm n k ⟨h, s₀.gens, s₀.drawn, tk, s₀.os⟩
section
variable {prog : Program} {w : World} {A : Around} {E : Value → Shared → Prop} {s : Shared} {env : Env} {x : PySem.Str} {px : Pos} {body orelse : List Stmt} {Q : Flow → Shared → Prop} {g : Heap} {L : Addr} {m : PySem.Str → Option Value}
theorem rows_start (words : List PySem.Str) (most : List Int) (n : Nat) {I ml rl wl al : Addr} {wvs avs mvs rvs : Array Value} {nw na nm nr : Nat} {a b : Int}
    (F : Fr g L s.heap m) (N : News g L s.heap [(I, rangeIt a b 1), (rl, W.listOf rvs nr), (ml, W.listOf mvs nm), (wl, W.listOf wvs nw), (al, W.listOf avs na)]) (hS : StrsAre rvs.toList (rowsT words most 0)) (ha : a = 0) (hb : b = ((n : Nat) : Int))
    (hz : Hold (∀ s₁, RInv m words most g L s I ml rl wl al wvs avs mvs nw na nm n 0 s₁ → wpAny (model prog w) A (pyNext (.ref I)) (fun r s₂ => r = none ∧ wpAny (model prog w) A (execs orelse env) Q E s₂) E s₁))
    (hs : Hold (∀ k s₁, RInv m words most g L s I ml rl wl al wvs avs mvs nw na nm n (k + 1) s₁ → wpAny (model prog w) A (pyNext (.ref I)) (fun r s₂ => ∃ v, r = some v ∧ wpAny (model prog w) A (assign (.Name x px) env v) (fun _ s₃ => wpAny (model prog w) A (execs body env) (fun f s₄ => match f with
      | .next | .cont => RInv m words most g L s I ml rl wl al wvs avs mvs nw na nm n k s₄
      | .brk => Q .next s₄
      | .ret v => Q (.ret v) s₄) E s₃) E s₂) E s₁)) :
    ∃ k, Turns prog w A E env x px body orelse (.ref I) Q k s := by
  refine ⟨n, turns_ind (fun k s₁ => RInv m words most g L s I ml rl wl al wvs avs mvs nw na nm n k s₁) hz.get hs.get _ _ ?_⟩
  obtain ⟨h, gs, d, tk, os⟩ := s
  exact RInv.mk 0 h tk rvs nr a b _ (by omega) (by omega) hb (fr_one F (fun y _ => rfl) rfl) N hS
end
end Mine
end
section
open PySem PySem.W PyProof.Rows PySem.Calls PySem.Spec
set_option maxRecDepth 100000
namespace Mine
local macro_rules | `(tactic| k_mem) => `(tactic| assumption)
local macro_rules | `(tactic| k_inst) => `(tactic| (refine' Mine.InstAt.ofAcc ?N ?h1 ?h2; (case N => k_asm); (case h1 => k_mem); (case h2 => k_mem)))
local macro_rules | `(tactic| k_ne) => `(tactic| (refine neN ?_; (try dsimp only); first | exact Mine.NeA.ne (by with_reducible assumption) | exact Mine.NeA.ne' (by with_reducible assumption) | omega))
local macro_rules | `(tactic| walk_at $s:str) => `(tactic| k_extra $s)
theorem words_C15 : True := by
  k_with_none
  w_top off
  k_with "myenter" => (first | ((refine' Mine.enterR (by k_asm) (by k_asm) (by k_asm) (by k_asm) (by k_asm) (by exact rfl) (by exact rfl) (by assumption) (by k_is) (by k_is) (by ktr_room) (by first | exact BindsTo.of_eq rfl | exact binds_K (by k_in) rfl (by k_is) rfl rfl rfl) (by exact locs rfl) ?_ (by exact rfl) (by exact rfl) (by exact rfl) (by decide); k_whole; intro g' L' h' hG' FG' F' N' B' X' T' l1; (try k_lt l1); (try dsimp only); (try k_lift B'); (try k_fold))) | fail "no")
  k_with "mylen" => (first | (first | omega | (simp only [PySem.Str.length_append, PySem.sizeLine_eq] at *; omega)) | fail "no")
  k_with "getMethod ref" => (first | ((k_here; k_dflt (first | refine' Mine.method_fnL (by k_in) (by k_inst) (by k_is) (by k_is) (by k_is) (by k_is) (by exact Mine.shadow_dict (by k_get)) ?_; k_whole | refine' Mine.method_biL (by k_in) (by k_inst) (by k_is) (by k_is) (by k_is) (by exact PySem.F.type_list_append) (by exact Mine.shadow_dict (by k_get)) ?_; k_whole))) | fail "no")
  k_with "call builtin:list.append" => (first | ((k_here; (with_reducible show wpAny _ _ (call (Value.builtin _) [Value.ref _, _]) _ _ _); k_dflt (refine' Mine.append_accL (by k_asm) (by k_asm) (by k_asm) (by k_upd) (by k_mem) (by k_is) ?_ (by walk_at "mylen"); k_whole); intro h' F' N'; (try k_sweep))) | fail "no")
  k_with "getAttr ref" => (first | ((k_here; k_dflt (refine' Mine.get_ownL' (by k_asm) (by k_asm) (by k_inst) (by k_is) (by k_is) (by k_is) (by k_is) (by k_is) (by k_is) (by k_get) (by k_handed) ?_; k_whole))) | fail "no")
  k_with "mytups" => (first | (first | assumption | exact Mine.TupsAt.keeps (by assumption) (fun b o e _ => Fr.keep (by k_asm) b o e)) | fail "no")
  k_with "eval GeneratorExp" => (first | ((k_here; k_dflt (first | ((with_reducible show wpAny _ _ (eval (Expr.GeneratorExp (Expr.BinOp _ _ _ _) _ _ _) _) _ _ _); refine' Mine.gen_len_K (by k_asm) (by k_asm) (by k_asm) (by k_asm) (by exact rfl) (by exact rfl) (by exact rfl) (by exact rfl) (by exact rfl) (by ktr_room) (by k_mem) (by k_mem) (by (intro ps'; k_upd)) (by assumption) (by walk_at "mytups") (by assumption) ?_) | ((with_reducible show wpAny _ _ (eval (Expr.GeneratorExp (Expr.Call _ _ _ _) _ _ _) _) _ _ _); refine' Mine.gen_join_K (by exact rfl) (by k_asm) (by k_asm) (by k_asm) (by k_asm) (by exact rfl) (by exact rfl) (by exact rfl) (by exact rfl) (by exact rfl) (by ktr_room) (by k_mem) (by k_mem) (by (intro ps'; k_upd)) (by assumption) (by walk_at "mytups") (by assumption) ?_)); intro a' ps' h' gs' tk' lo' F' N' hps' hAB' hlo' hlo2' G'; (try dsimp only at N'))) | fail "no")
  k_with "call builtin:sum" => (first | ((k_here; k_dflt (refine' Mine.sum_len_K (by k_asm) (by k_asm) (by refine Mine.Gen.toks (by assumption) ?_; first | exact Nat.le_succ _ | exact Nat.le_refl _) (by exact (Mine.TupsAt.size (by assumption)).symm) (by assumption) (by assumption) ?_); intro h' gs' tk' t' F' N' hAB' hK')) | fail "no")
  k_with "call builtin:str.join" => (first | ((k_here; (with_reducible show wpAny _ _ (call (Value.builtin _) [Value.str _ _, Value.ref _]) _ _ _); k_dflt (refine' Mine.join_str_K (by k_asm) (by k_asm) (by refine Mine.Gen.toks (by assumption) ?_; first | exact Nat.le_succ _ | exact Nat.le_refl _) (by exact (Mine.TupsAt.size (by assumption)).symm) (by assumption) (by assumption) (by assumption) (by assumption) ?_); intro h' gs' tk' t' F' N' hAB' hK')) | fail "no")
  k_with "ksenter" => (first | ((refine' Mine.ks_codeR (by k_asm) (by k_asm) (by k_asm) (by k_asm) (by k_asm) (by exact rfl) (by exact rfl) (by assumption) (by k_is) (by k_is) (by ktr_room) (by first | exact BindsTo.of_eq rfl | exact binds_K (by k_in) rfl (by k_is) rfl rfl rfl) (by exact locs rfl) ?_ (by decide) (by exact rfl) (by exact rfl) (by exact rfl); intro g' L' h' hG' FG' F' N' B' X' T' l1; (try k_lt l1); (try dsimp only); (try k_lift B'); (try k_fold))) | fail "no")
  k_with "getMethod ref" => (first | ((k_here; k_dflt (refine' Mine.meth_len_K (by k_asm) (by k_asm) (by k_asm) (by k_mem) (by k_inst) (by k_is) (by k_is) (by ks_is) (by decide) (by first | exact Mine.ty_len | exact Mine.ty_pop | exact Mine.ty_init) (by first | exact Or.inl ⟨rfl, rfl⟩ | exact Or.inr ⟨rfl, rfl⟩) (by first | exact Mine.nc_len | exact Mine.nc_pop | exact Mine.nc_init) (by decide +kernel) ?_; intro q' h' F' N' l1; (try k_lt l1)))) | fail "no")
  k_with "callWith ref" => (first | ((k_here; k_dflt (refine' Mine.callWith_B (by k_asm) (by k_mem) (by first | exact Or.inl rfl | exact Or.inr rfl) ?_))) | fail "no")
  k_with "call ref" => (first | ((k_here; k_dflt (first | (refine' Mine.call_len_K (by k_asm) (by k_mem) (by k_mem) ?_; intro t' tk') | (refine' Mine.call_pop_K (by k_asm) (by k_asm) (by k_asm) (by k_mem) (by k_upd) (by k_mem) (by exact rfl) (by rfl) (by k_is) (by k_is) (by walk_at "mylen") ?_; intro h' F' N')))) | fail "no")
  k_with "newsx" => (first | (first | (intro _; exact News.nil) | (intro nx; refine' Mine.News.one nx (by k_mem) (by walk_at "newsx"))) | fail "no")
  k_with "news" => (first | (first | assumption | (refine' Mine.News.one (by assumption) (by k_mem) (by walk_at "newsx")) | (refine News.perm (by assumption) ?_; simp; done) | (refine News.perm (by assumption) ?_; intro p hp; simp only [List.mem_cons, List.not_mem_nil, or_false] at hp ⊢; rcases hp with rfl | hp <;> simp_all)) | fail "no")
  k_with "kb" => (first | (exact Mine.KB.fin (by assumption) (by assumption)) | fail "no")
  k_with "splitne" => (first | ((repeat ((with_reducible rename Mine.NeA _ _ ∧ _ => kc'); (first | (refine Mine.sp16 kc' ?_; intro _ _ _ _ _ _ _ _ _ _ _ _ _ _ _ _ _) | (refine Mine.sp8 kc' ?_; intro _ _ _ _ _ _ _ _ _) | (refine Mine.sp4 kc' ?_; intro _ _ _ _ _) | (refine Mine.sp2 kc' ?_; intro _ _ _) | (refine Mine.sp1 kc' ?_; intro _ _)); clear kc'))) | fail "no")
  k_with "upds" => (first | (first | exact Mine.Upds.nil | (refine' Mine.Upds.cons (by k_upd) (by walk_at "upds"))) | fail "no")
  k_with "mylens" => (first | (assumption) | fail "no")
  k_with "call ref" => (first | ((k_here; k_dflt ((first | with_reducible show wpAny _ _ (call (Value.ref 217) _) _ _ _ | with_reducible show wpAny _ _ (call (Value.ref (nat_lit 217)) _) _ _ _); refine' Mine.part_count_K _ _ _ _ _ _ _ _ _ _ _ _ _ _ _ _ _ _ _ _ _ _ _ _ _ _ _ (by k_asm) (by k_asm) (by k_asm) (by k_asm) (by first | assumption | exact rfl) (by (dsimp only [ktrTop, Around.deeper]; omega)) (by (dsimp only [ktrTop, Around.deeper]; omega)) (by k_asm) (by k_mem) (by k_mem) ?_); intro h' tk' t' F' N')) | fail "no")
  k_with "call ref" => (first | ((k_here; k_dflt ((first | with_reducible show wpAny _ _ (call (Value.ref 187) _) _ _ _ | with_reducible show wpAny _ _ (call (Value.ref (nat_lit 187)) _) _ _ _); refine' Mine.len_K _ _ _ _ _ _ _ _ _ _ _ _ _ _ _ _ _ _ _ _ _ _ _ _ _ _ _ _ _ _ (by k_asm) (by k_asm) (by k_asm) (by k_asm) (by first | assumption | exact rfl) (by (dsimp only [ktrTop, Around.deeper]; omega)) (by (dsimp only [ktrTop, Around.deeper]; omega)) (by k_asm) (by k_mem) (by k_mem) (by (intro ps'; walk_at "upds")) (by assumption) (by walk_at "mytups") (by walk_at "mylens") (by walk_at "mylen") ?_); intro ps' h' gs' tk' t' F' N' hps' hAB' hlb'; (try dsimp only at N'); (try (refine Mine.len_back (by assumption) ?_)))) | fail "no")
  k_with "call ref" => (first | ((k_here; k_dflt ((first | with_reducible show wpAny _ _ (call (Value.ref 194) _) _ _ _ | with_reducible show wpAny _ _ (call (Value.ref (nat_lit 194)) _) _ _ _); refine' Mine.str_K _ _ _ _ _ _ _ _ _ _ _ _ _ _ _ _ _ _ _ _ _ _ _ _ _ _ _ _ _ _ (by k_asm) (by k_asm) (by k_asm) (by k_asm) (by first | assumption | exact rfl) (by (dsimp only [ktrTop, Around.deeper]; omega)) (by (dsimp only [ktrTop, Around.deeper]; omega)) (by k_asm) (by k_mem) (by k_mem) (by (intro ps'; walk_at "upds")) (by assumption) (by walk_at "mytups") (by walk_at "mylens") (by walk_at "mylen") ?_); intro ps' h' gs' tk' t' F' N' hps' hAB' hTk'; (try dsimp only at N'); (try dsimp only [W.StrBack]))) | fail "no")
  k_with "call ref" => (first | ((k_here; k_dflt ((first | with_reducible show wpAny _ _ (call (Value.ref 164) _) _ _ _ | with_reducible show wpAny _ _ (call (Value.ref (nat_lit 164)) _) _ _ _); refine' Mine.push_K _ _ _ _ _ _ _ _ _ _ _ _ _ _ _ _ _ _ _ _ _ _ _ _ _ _ _ _ _ _ _ _ (by k_asm) (by k_asm) (by k_asm) (by k_asm) (by first | assumption | exact rfl) (by (dsimp only [ktrTop, Around.deeper]; omega)) (by (dsimp only [ktrTop, Around.deeper]; omega)) (by k_asm) (by k_mem) (by (intro tp'; walk_at "upds")) (by walk_at "mylen") ?_); intro tp' h' tk' F' N' hne'; (try dsimp only at N'); (replace hne' := Mine.allNe_of hne'; dsimp only [Mine.AllNe] at hne'; walk_at "splitne"))) | fail "no")
  k_with "subscriptTail Name Slice ref ref" => (first | ((k_here; (with_reducible show wpAny _ _ (subscriptTail _ (PySem.Expr.Slice _ _ none _) (Value.ref _) (Value.ref _)) _ _ _); k_dflt (refine' Mine.slice_K (by k_asm) (by k_asm) (by k_asm) (by k_mem) (by k_mem) (by k_is) (by k_is) (by k_is) (by kmk_part) (by kmk_part) (by walk_at "mylen") (by first | exact Mine.pick_from (by assumption) | exact rfl) ?_ (by with_unfolding_all rfl) (by kmk_pure)); intro D' h' F' N' l1; (try k_lt l1))) | fail "no")
  k_with "setItem ref ref" => (first | ((k_here; k_dflt (refine' Mine.setitem_K (by k_asm) (by k_asm) (by k_asm) (by kmk_list) (by (intro n'; k_upd)) (by k_mem) (by k_is) (by k_is) (by k_is) (by kmk_part) (by kmk_part) (by walk_at "mylen") (by first | walk_at "mylen" | (simp; done)) (by first | exact Mine.set_from (by assumption) | exact Mine.set_all | exact rfl) ?_); intro n' h' F' N'; (try dsimp only at N'))) | fail "no")
  k_with "setAttr ref" => (first | ((k_here; k_dflt (refine' Mine.set_dictL (by k_asm) (by k_asm) (by k_asm) (by k_inst) (by exact rfl) (by k_is) (by exact Mine.mro220 _) (by k_is) (by k_is) (by k_get) (by k_put) (by k_upd) (by exact Nat.le_of_ble_eq_true rfl) ?_; k_whole; intro h' F' N'; (try k_sweep)))) | fail "no")
  k_with "wpAt" => (first | (((with_reducible show _root_.PySem.wpAt _ _ _ (execs (_ :: _) _) _ _ _); refine ks_wpAt_execs_cons ?_)) | fail "no")
  k_with "wpAt" => (first | ((ks_step "eval Call"; k_dflt (refine ks_wpAt_MethodCall ?_))) | fail "no")
  k_with "truthy ref" => (first | ((k_here; k_dflt (refine' Mine.truthy_lenL (by k_in) (by k_inst) (by k_is) (by k_is) (by k_is) ?_; k_whole))) | fail "no")
  k_with "Exists" => (first | ((refine ⟨_, _, rfl, ?_⟩)) | fail "no")
  k_with "units" => (first | (first | k_units | (dsimp only [ktrTop, Around.deeper, Around.in1]; omega) | (simp only [ktrTop, Around.deeper, Around.in1, Around.under]; omega)) | fail "no")
  k_with "call type:str" => (first | ((k_here; (with_reducible show wpAny _ _ (call (Value.type "str") [Value.ref _]) _ _ _); k_dflt (refine' kso_call (by walk_at "units") (by k_in) (by k_inst) (by k_is) (by k_is) ?_; k_whole))) | fail "no")
  k_with "myenterC" => (first | ((refine' Mine.enterRC (by k_asm) (by k_asm) (by k_asm) (by k_asm) (by k_asm) (by exact rfl) (by exact rfl) (by assumption) (by k_is) (by k_is) (by ktr_room) (by first | exact BindsTo.of_eq rfl | exact binds_K (by k_in) rfl (by k_is) rfl rfl rfl) (by exact rfl) (by decide +kernel) ?_ (by exact rfl) (by exact rfl) (by exact rfl); k_whole; intro g' L' h' tk' cells' hG' FG' F' N' Y' B' X' T' l1; (try k_lt l1); k_cells Y'; (try simp only [List.cons_append, List.nil_append] at N'); (try dsimp only); (try k_lift B'); (try k_fold))) | fail "no")
  k_with "call type:range" => (first | ((k_here; k_dflt (first | (refine' Mine.range1_K (by k_asm) (by k_asm) ?_) | (refine' Mine.range2_K (by k_asm) (by k_asm) ?_)); intro R' h' tk' t1' u1' v1' F' N' l1; (try k_lt l1))) | fail "no")
  k_with "pyIter ref" => (first | ((k_here; k_dflt (refine' Mine.pyIter_range1_K (by k_asm) (by k_asm) (by k_mem) (by walk_at "idx") (by walk_at "idx") (by walk_at "idx") ?_); intro I' h' F' N' l1; (try k_lt l1); refine Mine.Hold.get ?_)) | fail "no")
  k_with "idx" => (first | (first | assumption | omega) | fail "no")
  k_with "pyNext ref" => (first | ((k_here; k_dflt (first | (refine' Mine.next_range_K (by k_asm) (by k_asm) (by k_upd) (by omega) ?_; intro h' t' F' N'; (try dsimp only at N'); refine ⟨_, rfl, ?_⟩) | (refine' Mine.end_range_K (by exact rfl) (by k_asm) (by k_asm) (by k_mem) (by walk_at "del") (by omega) ?_; intro h' F' N'; (try dsimp only at N'); refine ⟨rfl, ?_⟩)))) | fail "no")
  k_with "del" => (first | (first | (refine' Mine.Del.head (by k_all)) | (refine' Mine.Del.tail (by k_ne) (by walk_at "del"))) | fail "no")
  k_with "exec For Name Call cons nil" => (first | ((k_here; refine Mine.Hold.get ?_)) | fail "no")
  k_with "subscriptTail Name Slice ref ref" => (first | ((k_here; (with_reducible show wpAny _ _ (subscriptTail _ (PySem.Expr.Slice _ _ none _) (Value.ref _) (Value.ref _)) _ _ _); k_dflt (refine' Mine.slice_ij (by k_asm) (by k_asm) (by k_mem) (by assumption) (by kmk_part) (by kmk_part) (by assumption) (by assumption) (by omega) (by omega) (by omega) ?_ (by with_unfolding_all rfl) (by kmk_pure)); intro D' zs' h' hS' F' N' l1; (try k_lt l1))) | fail "no")
  k_with "offs" => (first | (((rename LCg.Off3 _ _ _ _ => kO); (rename ((@Ne Nat _ _) ∧ (@Ne Nat _ _) ∧ (@Ne Nat _ _)) => kn); (replace kn := Mine.ne3A kn); (replace kO := Mine.off3A kO); dsimp only [Mine.Off3A] at kO; walk_at "splitne")) | fail "no")
  k_with "CompSrc" => (first | ((k_here; k_dflt (refine' Mine.comp_strs (fun x => Str.ofString " " ++ x) (by exact rfl) (by k_asm) (by k_asm) (by k_mem) (by assumption) (by walk_at "slcz") (fun G' x' t' I' oI' C' oC' D' m' ys' h' tk' E' hx' hC' hm' F' N' off' ne' => ?_) (fun G' ys' hS' => ?_)); (all_goals (try walk_at "offs")); (all_goals (try walk_at "wdx")))) | fail "no")
  k_with "wdx" => (first | (((rename (_ ∈ Mine.slc _ _ _) => kx); have kxl := Mine.Wd.len (Mine.slc_wd (by assumption) kx))) | fail "no")
  k_with "slcz" => (first | (first | exact Nat.le_of_ble_eq_true rfl | (refine Nat.le_trans Mine.slc_len ?_; omega)) | fail "no")
  k_with "CompSrcT" => (first | ((k_here; k_dflt (refine' Mine.comp_filter _ (by assumption) (by exact rfl) (by k_asm) (by k_asm) (by k_mem) (by assumption) (by assumption) (by walk_at "slcz") (fun G' x' t' I' oI' C' oC' D' m' ys' h' tk' E' hxl' hx' hC' hm' F' N' off' ne' => ?_) (fun G' ys' hS' => ?_)); (all_goals (try walk_at "offs")))) | fail "no")
  k_with "SEl" => (first | (exact ⟨rfl, _, rfl⟩) | fail "no")
  k_with "FinE" => (first | (((unfold LCg.FinE); intro D' h' tk' F' N' o1'; (replace o1' := Mine.off1A o1'); (dsimp only [Mine.Off1A] at o1'); walk_at "splitne"; (try dsimp only))) | fail "no")
  k_with "call builtin:str.join" => (first | ((k_here; (with_reducible show wpAny _ _ (call (Value.builtin _) [Value.str _ _, Value.ref _]) _ _ _); k_dflt (refine' Mine.join_words (by k_asm) (by k_mem) (by assumption) (by exact fun u hu => Mine.slc_wd (by assumption) hu) (by walk_at "slcz") ?_); intro _ _)) | fail "no")
  k_with "mylen" => (first | (first | omega | (rw [PySem.sizeLine_eq]; omega)) | fail "no")
  k_with "call builtin:str.lower" => (first | ((k_here; (with_reducible show wpAny _ _ (call (Value.builtin "str.lower") [Value.str _ _]) _ _ _); (refine SCL.lower (by walk_at "mylen") ?_); intro _)) | fail "no")
  k_with "binaryOp Add str str" => (first | ((k_here; (with_reducible show wpAny _ _ (binaryOp Operator.Add (Value.str _ _) (Value.str _ _)) _ _ _); (refine' KXadd.add (by exact Nat.le_refl _) (by exact Nat.le_refl _) (by omega) ?_); intro _ _ _)) | fail "no")
  k_with "compareOp NotEq ref ref" => (first | ((k_here; k_dflt (refine' Mine.ne_nil_f (by k_asm) (by k_mem) (by k_mem) (by assumption) (by assumption) (by (dsimp only [ktrTop, Around.deeper]; omega)) ?_))) | fail "no")
  k_with "eval ListComp" => (first | ((k_here; (with_reducible show wpAny _ _ (eval (Expr.ListComp _ [⟨_, _, [], _⟩] _ _) _) _ _ _); k_dflt (refine LCg.ListComp_U (F₀ := by k_asm) (by with_unfolding_all rfl) (by decide) (by rfl) (by decide) (by rfl) ?_))) | fail "no")
  k_with "eval ListComp" => (first | ((k_here; (with_reducible show wpAny _ _ (eval (Expr.ListComp _ [⟨_, _, [_], _⟩] _ _) _) _ _ _); k_dflt (refine LCt.ListComp_T (F₀ := by k_asm) (by with_unfolding_all rfl) (by decide) (by rfl) (by decide) (by rfl) ?_))) | fail "no")
  k_with "fb" => (first | ((simp only [Txt.contains]; simp [*]; done)) | fail "no")
  k_with "FEl" => (first | (exact ⟨rfl, by walk_at "fb", _, rfl⟩) | fail "no")
  k_with "FNo" => (first | (exact ⟨rfl, by walk_at "fb"⟩) | fail "no")
  k_with "subscriptTail Name UnaryOp ref int" => (first | ((k_here; (with_reducible show wpAny _ _ (subscriptTail _ _ (Value.ref _) (Value.int _ _)) _ _ _); k_dflt (refine' Mine.item_last (by k_asm) (by k_mem) (by assumption) (by omega) ?_ (by with_unfolding_all rfl)); intro _)) | fail "no")
  k_with "binaryOp Mult ref int" => (first | ((k_here; (with_reducible show wpAny _ _ (binaryOp Operator.Mult (Value.ref _) (Value.int _ _)) _ _ _); k_dflt (refine' Mine.rep_K (by k_asm) (by k_asm) (by k_mem) (by omega) (by omega) ?_); intro D' rv' h' hS' F' N' l1; (try k_lt l1))) | fail "no")
  k_with "subscriptTail" => (first | ((k_here; (with_reducible show wpAny _ _ (subscriptTail _ _ (Value.ref _) (Value.int _ _)) _ _ _); k_dflt (refine' Mine.item_strs (by k_asm) (by k_mem) (by assumption) (by omega) (by omega) (by omega) ?_ (by with_unfolding_all rfl) (by (intro _; with_unfolding_all rfl))); intro _)) | fail "no")
  k_with "getItem ref int" => (first | ((k_here; k_dflt (refine' Mine.get_strs (by k_asm) (by k_mem) (by assumption) (by assumption) (by assumption) (by assumption) ?_); intro _)) | fail "no")
  k_with "setItem ref int str" => (first | ((k_here; k_dflt (refine' Mine.set_strs (by k_asm) (by k_asm) (by (intro vs'; k_upd)) (by assumption) (by assumption) (by assumption) (by assumption) ?_); intro vs' h' hS' F' N'; (try dsimp only at N'))) | fail "no")
  k_with "setItem ref int" => (first | ((k_here; k_dflt (refine' Mine.set_strs (by k_asm) (by k_asm) (by (intro vs'; k_upd)) (by assumption) (by assumption) (by assumption) (by assumption) ?_); intro vs' h' hS' F' N'; (try dsimp only at N'))) | fail "no")
  k_with "inplaceOp Add str str" => (first | ((k_here; k_dflt (refine SBL.iadd (hsz := by first | omega | (rw [PySem.sizeLine_eq]; omega)) ?_); intro _ _)) | fail "no")
  k_with "subscriptTail Name Name ref int" => (first | ((k_here; (with_reducible show wpAny _ _ (subscriptTail _ _ (Value.ref _) (Value.int _ _)) _ _ _); k_dflt (refine' Mine.item_strs (by k_asm) (by k_mem) (by assumption) (by omega) (by omega) (by omega) ?_ (by with_unfolding_all rfl) (by (intro _; with_unfolding_all rfl))); intro _)) | fail "no")
  trivial
set_option maxHeartbeats 1000000 in
theorem told_ok (w : World) {p : Program} {loose : List PySem.Str} {mean : ExcName → Option Value} {mg mb : PySem.Str → Option Value} (dp un : Nat) (gd : Option (List Code)) (cn : PySem.Str) (cs : Scope) (a : Addr) (ccd : Value) (cl : List (PySem.Str × Addr)) (outer : List Env) (A₀ : Around) (base h₀ : Heap) (L : Addr) (m : PySem.Str → Option Value) (s : Shared) (Q E : Value → Shared → Prop) (wl al : Addr) (wvs : Array Value) (nw na : Nat) (a1 a2 a3 : PySem.Str) (t1 t2 t3 tw : Tok) (mxl : Int) (words : List PySem.Str)
    (B : Below A₀ base outer h₀) (F : Fr h₀ L s.heap m) (X : (Mine.hd.heap_1 w.params).In h₀) (T : Top p loose mean mg mb h₀) (hk : cs.kind = .function) (hd : dp + 40 < recursionLimit) (hu : un + 600 < cLine)
    (N : News h₀ L s.heap [(wl, W.listOf wvs nw), (al, W.listOf #[.str a1 t1, .str a2 t2, .str a3 t3] na)])
    (hne : NeA wl al)
    (hAl : ∀ x ∈ [a1, a2, a3], x.length ≤ 1000) (hAok : ∀ x ∈ [a1, a2, a3], PyData.strOk x = true)
    (hW : StrsAre wvs.toList words) (hw : ∀ u ∈ words, Wd u) (hn : words.length ≤ 100) (hn1 : 1 ≤ words.length)
    (hret : ∀ D rv nr h' tk', StrsAre rv.toList (rowsT words (mostT (fun i j => badT mxl a1 a2 a3 (slc words i j)) (words.length - 1)) words.length) → Fr h₀ L h' m → News h₀ L h' [(D, W.listOf rv nr), (wl, W.listOf wvs nw), (al, W.listOf #[.str a1 t1, .str a2 t2, .str a3 t3] na)] →
      KB [(wl, W.listOf wvs nw), (al, W.listOf #[.str a1 t1, .str a2 t2, .str a3 t3] na)] s.heap h' → s.heap.get? D = none → Q (.ref D) { s with heap := h', toks := tk' })
    : wpAny (model PySem.Challenge.rw_wn0105_01.row.prog w) (ktrTop dp un gd cn cs L a ccd cl outer) (call (.ref 257) [.ref wl, .ref al, .int mxl tw]) Q E s := by
  have hwz : wvs.size = words.length := by have := strs_len hW; rwa [Array.length_toList] at this
  revert X; k_fill; intro X
  refine wpAny_call ?_
  k_dflt walk_at "myenterC"
  (rename Fr _ _ _ _ => kF')
  replace kF' : Fr _ _ _ (fun y => if y = Str.ofString "width" then some (Value.int mxl tw) else if y = Str.ofString "agents" then some (Value.ref al) else if y = Str.ofString "words" then some (Value.ref wl) else none) := kF'
  k_steps
  refine ⟨?_⟩
  k_dflt (refine' For_turns ?fa ?fb ?fc; (case fb => (intro _; with_unfolding_all rfl)); (case fc => passes_own))
  k_steps
  k_dflt (refine' ⟨outer_start (fun i j => badT mxl a1 a2 a3 (slc words i j)) words.length ?F ?N ?hoc ?hM rfl ?hb ⟨?hz⟩ ⟨?hs⟩⟩; (case F => k_asm); (case hoc => assumption); (case N => walk_at "news"); (case hM => exact .cons _ _ (.cons _ _ .nil)); (case hb => omega))
  · intro s₁ hO
    cases hO with
    | mk t h tk oc cv mvs nm xo bo vb vi vj ht hx hb F N hoc hM =>
    have hml := mostT_len (fun i j => badT mxl a1 a2 a3 (slc words i j)) t
    have hmf := mostT_facts (fun i j => badT mxl a1 a2 a3 (slc words i j)) t
    have htn : t + 1 = words.length := by omega
    have hl0 := (hmf.1 (t + 1) (by omega)).1
    have hl1 := (hmf.1 (t + 1) (by omega)).2
    have hle : (mostT (fun i j => badT mxl a1 a2 a3 (slc words i j)) t).length - 1 = t + 1 := by omega
    rw [← hle] at hl0 hl1
    k_steps
    refine ⟨?_⟩
    k_dflt (refine' For_turns ?ra ?rb ?rc)
    case rb => (intro _; with_unfolding_all rfl)
    case rc => passes_own
    k_steps
    k_dflt (refine' ⟨rows_start (mvs := mvs) (nm := nm) (wl := wl) (al := al) words (mostT (fun i j => badT mxl a1 a2 a3 (slc words i j)) t) words.length ?rF ?rN ?rS ?rha ?rhb ⟨?rhz⟩ ⟨?rhs⟩⟩; (case rF => k_asm); (case rS => assumption); (case rN => walk_at "news"); (case rha => rfl); (case rhb => omega))
    · intro s₁ hR
      cases hR with
      | mk q h tk rvs nr xi bi vj hq hxi hbi F N hS =>
      have hqn : q = words.length := by omega
      have htt : t = words.length - 1 := by omega
      subst hqn
      subst htt
      k_steps
      exact hret _ _ _ _ _ hS (by k_asm) (by walk_at "news") (by walk_at "kb") (Mine.fresh_in (by assumption) (by assumption) (by k_mem) (by k_all))
    · intro k s₁ hR
      cases hR with
      | mk q h tk rvs nr xi bi vj hq hxi hbi F N hS =>
      subst hxi
      have hb2 : 0 < bi := by omega
      have hs1l : (Str.ofString " ").length = 1 := by decide +kernel
      have e1 : ((q : Int) + 1).toNat = q + 1 := by omega
      have hr0 := (hmf.1 (q + 1) (by omega)).1
      have hr2 := (hmf.1 (q + 1) (by omega)).2
      have hr1 := mostT_mono (fun i j => badT mxl a1 a2 a3 (slc words i j)) t (t - q) (q + 1) (by omega)
      rw [show q + 1 + (t - q) = t + 1 by omega, ← hle] at hr1
      have hlen := rowsT_len words (mostT (fun i j => badT mxl a1 a2 a3 (slc words i j)) t) q
      have hsm := rowsT_small (most := mostT (fun i j => badT mxl a1 a2 a3 (slc words i j)) t) hw q ((mostT (fun i j => badT mxl a1 a2 a3 (slc words i j)) t).getD (q + 1) 0).toNat
      rw [← e1] at hr0 hr1 hr2 hsm
      have hr3 : (mostT (fun i j => badT mxl a1 a2 a3 (slc words i j)) t).getD ((q : Int) + 1).toNat 0 < ((rowsT words (mostT (fun i j => badT mxl a1 a2 a3 (slc words i j)) t) q).length : Int) := by omega
      have hr4 : (mostT (fun i j => badT mxl a1 a2 a3 (slc words i j)) t).getD ((q : Int) + 1).toNat 0 ≤ 1000 := by omega
      have hwq : (words.getD ((q : Int)).toNat (Str.ofString "")).length ≤ 3 := by
        rw [Int.toNat_natCast, List.getD_eq_getElem?_getD, List.getElem?_eq_getElem (show q < words.length by omega)]
        exact (hw _ (List.getElem_mem _)).len.2
      k_steps
      dsimp only
      (rename Fr _ _ _ _ => kF)
      (rename StrsAre _ _ => kS)
      rw [e1, Int.toNat_natCast] at kS
      exact RInv.mk (q + 1) _ _ _ _ (((q : Nat) : Int) + 1) (bi - 1) _ (by omega) (by push_cast; omega) (by omega) (fr_one kF (by intro y h1; simp [h1]) rfl) (by assumption) kS
  · intro k s₁ hO
    cases hO with
    | mk t h tk oc cv mvs nm xo bo vb vi vj ht hx hb F N hoc hM =>
    have hml := mostT_len (fun i j => badT mxl a1 a2 a3 (slc words i j)) t
    have hb1 : 0 < bo := by omega
    k_steps
    refine ⟨?_⟩
    k_dflt (refine' For_turns ?ga ?gb ?gc)
    case gb => (intro _; with_unfolding_all rfl)
    case gc => passes_own
    k_steps
    k_dflt (refine' ⟨inner_start (xo := xo + 1) (bo := bo - 1) (mxl := mxl) (tw := tw) (wl := wl) (al := al) (fun i j => badT mxl a1 a2 a3 (slc words i j)) t ?iF ?iem ?ieb ?iej ?ihm ?iN ?ihoc ?ihb0 ?iha ?ihb ⟨?ihz⟩ ⟨?ihs⟩⟩; (case iF => k_asm); (case iem => rfl); (case ieb => rfl); (case iej => rfl); (case ihm => (intro y h1 h2 h3; simp [fT3, fTold, h1, h2, h3])); (case ihoc => assumption); (case iN => walk_at "news"); (case ihb0 => rw [show (xo - 1).toNat = t + 1 by omega]); (case iha => rfl); (case ihb => omega))
    · intro s₁ hI
      cases hI with
      | mk i h tk oc cv xi bi tb vi hi hxi hbi F N hoc =>
      have hmz : mvs.size = t + 2 := by have := hM.length; rw [Array.length_toList] at this; omega
      have hit : i = t + 1 := by omega
      subst hit
      k_steps
      dsimp only
      exact OInv.mk (t + 1) _ _ _ cv _ _ (xo + 1) (bo - 1) _ _ _ (by omega) (by push_cast; omega) (by omega) (by k_asm) (by assumption) hoc (ints_push hM)
    · intro k s₁ hI
      cases hI with
      | mk i h tk oc cv xi bi tb vi hi hxi hbi F N hoc =>
      have hb2 : 0 < bi := by omega
      have hs1l : (Str.ofString " ").length = 1 := by decide +kernel
      have hxo : xo = ((t + 2 : Nat) : Int) := by push_cast; omega
      have htl : (txt (slc words i (t + 2))).length ≤ 400 := by
        have h1 := txt_len_le (ws := slc words i (t + 2)) fun u hu => slc_wd hw hu
        have h2 := slc_len (words := words) (i := i) (j := t + 2)
        omega
      have hAS : StrsAre (#[.str a1 t1, .str a2 t2, .str a3 t3] : Array Value).toList [a1, a2, a3] := .cons _ _ (.cons _ _ (.cons _ _ .nil))
      have hPh : PHint (fun x => Txt.contains (Txt.lower (txt (slc words i (t + 2)))) (Txt.lower x)) := ⟨trivial⟩
      k_steps
      · dsimp only
        subst hxi
        (rename Fr _ _ _ _ => kF)
        have hbad : badT mxl a1 a2 a3 (slc words i (t + 2)) = true := bad_lt (by omega)
        exact IInv.mk (i + 1) _ _ _ _ (((i : Nat) : Int) + 1) (bi - 1) _ _ (by omega) (by push_cast; omega) (by omega) (fr_three kF (by intro y h1 h2 h3; simp [fT3, fTold, h1, h2, h3]) (congrArg (fun z => some (Value.int z _)) (best_yes (bad := fun i j => badT mxl a1 a2 a3 (slc words i j)) hbad)) rfl rfl) (by walk_at "news") (by assumption)
      · dsimp only
        subst hxi
        (rename Fr _ _ _ _ => kF)
        have hbad : badT mxl a1 a2 a3 (slc words i (t + 2)) = false := bad_no (by omega) (by assumption)
        exact IInv.mk (i + 1) _ _ _ _ (((i : Nat) : Int) + 1) (bi - 1) _ _ (by omega) (by push_cast; omega) (by omega) (fr_three kF (by intro y h1 h2 h3; simp [fT3, fTold, h1, h2, h3]) (congrArg (fun z => some (Value.int z _)) (best_no (bad := fun i j => badT mxl a1 a2 a3 (slc words i j)) hbad)) rfl rfl) (by walk_at "news") (by assumption)
      · dsimp only
        subst hxi
        (rename Fr _ _ _ _ => kF)
        have hbad : badT mxl a1 a2 a3 (slc words i (t + 2)) = true := bad_f (by assumption)
        exact IInv.mk (i + 1) _ _ _ _ (((i : Nat) : Int) + 1) (bi - 1) _ _ (by omega) (by push_cast; omega) (by omega) (fr_three kF (by intro y h1 h2 h3; simp [fT3, fTold, h1, h2, h3]) (congrArg (fun z => some (Value.int z _)) (best_yes (bad := fun i j => badT mxl a1 a2 a3 (slc words i j)) hbad)) rfl rfl) (by walk_at "news") (by assumption)
end Mine
end
section
open PySem PySem.W PyProof.Rows PySem.Calls PySem.Spec PySem.Builtin PySem.Builtin.Str
set_option maxRecDepth 100000
namespace Mine
theorem fm {n k : Int} (h : 0 < k) : 0 ≤ n.fmod k ∧ n.fmod k ≤ k - 1 := by
  have h1 := fmod_lo n h
  have h2 := fmod_hi n h
  omega
def sg (k : Int) : Nat := if k = 0 then 97 else if k = 1 then 98 else 42
theorem sg_Sg (k : Int) : Sg (sg k) := by
  unfold sg Sg
  split
  · exact .inl rfl
  · split
    · exact .inr (.inl rfl)
    · exact .inr (.inr (.inl rfl))
theorem mul_item {k c : Int} (hk : 0 ≤ k ∧ k ≤ 2) (hc : 0 ≤ c ∧ c ≤ 2) : cs (Txt.mul (Txt.item (Str.ofString "ab*") k) (1 + c)) = List.replicate (c.toNat + 1) (sg k) := by
  rcases (by omega : k = 0 ∨ k = 1 ∨ k = 2) with rfl | rfl | rfl <;> rcases (by omega : c = 0 ∨ c = 1 ∨ c = 2) with rfl | rfl | rfl <;> decide +kernel
theorem mul_item_len {k c : Int} (hk : 0 ≤ k ∧ k ≤ 2) (hc : 0 ≤ c ∧ c ≤ 2) : (Txt.mul (Txt.item (Str.ofString "ab*") k) (1 + c)).length ≤ 3 := by
  rw [len_cs, mul_item hk hc, List.length_replicate]; omega
/-- two runs of one or two like signs, a blank between -/
def Ag (a : PySem.Str) : Prop := ∃ c k d l, cs a = List.replicate (k + 1) c ++ 32 :: List.replicate (l + 1) d ∧ k ≤ 1 ∧ l ≤ 1 ∧ Sg c ∧ Sg d
theorem up_Sg {c : Nat} (h : Sg c) : Sg (up1 c) := by
  rcases h with rfl | rfl | rfl | rfl | rfl <;> unfold Sg <;> decide +kernel
theorem cs_upper {x : PySem.Str} (h : ∀ c ∈ cs x, c < 128) : cs (Txt.upper x) = (cs x).map up1 := by
  rw [upper_ascii h]
  simp [cs]
theorem wd_mul {k c : Int} (hk : 0 ≤ k ∧ k ≤ 2) (hc : 0 ≤ c ∧ c ≤ 2) : Wd (Txt.mul (Txt.item (Str.ofString "ab*") k) (1 + c)) := ⟨sg k, c.toNat, mul_item hk hc, by omega, sg_Sg k⟩
theorem wd_upper {x : PySem.Str} (h : Wd x) : Wd (Txt.upper x) := by
  have hs := h.signs
  obtain ⟨c, k, e, hk, hc⟩ := h
  refine ⟨up1 c, k, ?_, hk, up_Sg hc⟩
  rw [cs_upper fun d hd => (hs d hd).lt, e, List.map_replicate]
theorem ag_glue {x y : PySem.Str} {c d : Nat} {k l : Nat} (hx : cs x = List.replicate (k + 1) c) (hy : cs y = List.replicate (l + 1) d) (hk : k ≤ 1) (hl : l ≤ 1) (hc : Sg c) (hd : Sg d) : Ag (x ++ Str.ofString " " ++ y) := by
  refine ⟨c, k, d, l, ?_, hk, hl, hc, hd⟩
  rw [cs_append, cs_append, hx, hy, cs_space]; simp
theorem ag_mul {k c j d : Int} (hk : 0 ≤ k ∧ k ≤ 2) (hc : 0 ≤ c ∧ c ≤ 1) (hj : 0 ≤ j ∧ j ≤ 2) (hd : 0 ≤ d ∧ d ≤ 1) : Ag (Txt.mul (Txt.item (Str.ofString "ab*") k) (1 + c) ++ Str.ofString " " ++ Txt.mul (Txt.item (Str.ofString "ab*") j) (1 + d)) :=
  ag_glue (mul_item hk ⟨hc.1, by omega⟩) (mul_item hj ⟨hd.1, by omega⟩) (by omega) (by omega) (sg_Sg k) (sg_Sg j)
theorem Ag.signs {a : PySem.Str} (h : Ag a) : ∀ c ∈ cs a, c = 32 ∨ Sg c := by
  obtain ⟨c, k, d, l, e, _, _, hc, hd⟩ := h
  intro x hx
  rw [e] at hx
  rcases List.mem_append.mp hx with hx | hx
  · rw [List.eq_of_mem_replicate hx]; exact .inr hc
  · rcases List.mem_cons.mp hx with rfl | hx
    · exact .inl rfl
    · rw [List.eq_of_mem_replicate hx]; exact .inr hd
theorem ag_upper {a : PySem.Str} (h : Ag a) : Ag (Txt.upper a) := by
  have hs := h.signs
  obtain ⟨c, k, d, l, e, hk, hl, hc, hd⟩ := h
  refine ⟨up1 c, k, up1 d, l, ?_, hk, hl, up_Sg hc, up_Sg hd⟩
  rw [cs_upper fun x hx => by rcases hs x hx with rfl | h; decide; exact h.lt, e, List.map_append, List.map_cons, List.map_replicate, List.map_replicate]
  rfl
theorem Ag.len {a : PySem.Str} (h : Ag a) : 3 ≤ a.length ∧ a.length ≤ 5 := by
  obtain ⟨c, k, d, l, e, hk, hl, _, _⟩ := h
  rw [len_cs, e]
  simp only [List.length_append, List.length_replicate, List.length_cons]
  omega
end Mine
end
section
open PySem PySem.W PyProof.Rows PySem.Calls PySem.Spec
set_option maxRecDepth 100000
namespace Mine
local macro_rules | `(tactic| k_mem) => `(tactic| assumption)
local macro_rules | `(tactic| k_inst) => `(tactic| (refine' Mine.InstAt.ofAcc ?N ?h1 ?h2; (case N => k_asm); (case h1 => k_mem); (case h2 => k_mem)))
local macro_rules | `(tactic| walk_at $s:str) => `(tactic| k_extra $s)
theorem words_C16 : True := by
  k_with_none
  w_top off
  k_with "myenter" => (first | ((refine' Mine.enterR (by k_asm) (by k_asm) (by k_asm) (by k_asm) (by k_asm) (by exact rfl) (by exact rfl) (by assumption) (by k_is) (by k_is) (by ktr_room) (by first | exact BindsTo.of_eq rfl | exact binds_K (by k_in) rfl (by k_is) rfl rfl rfl) (by exact locs rfl) ?_ (by exact rfl) (by exact rfl) (by exact rfl) (by decide); k_whole; intro g' L' h' hG' FG' F' N' B' X' T' l1; (try k_lt l1); (try dsimp only); (try k_lift B'); (try k_fold))) | fail "no")
  k_with "mylen" => (first | (first | omega | (simp only [PySem.Str.length_append, PySem.sizeLine_eq] at *; omega)) | fail "no")
  k_with "getMethod ref" => (first | ((k_here; k_dflt (first | refine' Mine.method_fnL (by k_in) (by k_inst) (by k_is) (by k_is) (by k_is) (by k_is) (by exact Mine.shadow_dict (by k_get)) ?_; k_whole | refine' Mine.method_biL (by k_in) (by k_inst) (by k_is) (by k_is) (by k_is) (by exact PySem.F.type_list_append) (by exact Mine.shadow_dict (by k_get)) ?_; k_whole))) | fail "no")
  k_with "call builtin:list.append" => (first | ((k_here; (with_reducible show wpAny _ _ (call (Value.builtin _) [Value.ref _, _]) _ _ _); k_dflt (refine' Mine.append_accL (by k_asm) (by k_asm) (by k_asm) (by k_upd) (by k_mem) (by k_is) ?_ (by walk_at "mylen"); k_whole); intro h' F' N'; (try k_sweep))) | fail "no")
  k_with "getAttr ref" => (first | ((k_here; k_dflt (refine' Mine.get_ownL' (by k_asm) (by k_asm) (by k_inst) (by k_is) (by k_is) (by k_is) (by k_is) (by k_is) (by k_is) (by k_get) (by k_handed) ?_; k_whole))) | fail "no")
  k_with "mytups" => (first | (first | assumption | exact Mine.TupsAt.keeps (by assumption) (fun b o e _ => Fr.keep (by k_asm) b o e)) | fail "no")
  k_with "eval GeneratorExp" => (first | ((k_here; k_dflt (first | ((with_reducible show wpAny _ _ (eval (Expr.GeneratorExp (Expr.BinOp _ _ _ _) _ _ _) _) _ _ _); refine' Mine.gen_len_K (by k_asm) (by k_asm) (by k_asm) (by k_asm) (by exact rfl) (by exact rfl) (by exact rfl) (by exact rfl) (by exact rfl) (by ktr_room) (by k_mem) (by k_mem) (by (intro ps'; k_upd)) (by assumption) (by walk_at "mytups") (by assumption) ?_) | ((with_reducible show wpAny _ _ (eval (Expr.GeneratorExp (Expr.Call _ _ _ _) _ _ _) _) _ _ _); refine' Mine.gen_join_K (by exact rfl) (by k_asm) (by k_asm) (by k_asm) (by k_asm) (by exact rfl) (by exact rfl) (by exact rfl) (by exact rfl) (by exact rfl) (by ktr_room) (by k_mem) (by k_mem) (by (intro ps'; k_upd)) (by assumption) (by walk_at "mytups") (by assumption) ?_)); intro a' ps' h' gs' tk' lo' F' N' hps' hAB' hlo' hlo2' G'; (try dsimp only at N'))) | fail "no")
  k_with "call builtin:sum" => (first | ((k_here; k_dflt (refine' Mine.sum_len_K (by k_asm) (by k_asm) (by refine Mine.Gen.toks (by assumption) ?_; first | exact Nat.le_succ _ | exact Nat.le_refl _) (by exact (Mine.TupsAt.size (by assumption)).symm) (by assumption) (by assumption) ?_); intro h' gs' tk' t' F' N' hAB' hK')) | fail "no")
  k_with "call builtin:str.join" => (first | ((k_here; (with_reducible show wpAny _ _ (call (Value.builtin _) [Value.str _ _, Value.ref _]) _ _ _); k_dflt (refine' Mine.join_str_K (by k_asm) (by k_asm) (by refine Mine.Gen.toks (by assumption) ?_; first | exact Nat.le_succ _ | exact Nat.le_refl _) (by exact (Mine.TupsAt.size (by assumption)).symm) (by assumption) (by assumption) (by assumption) (by assumption) ?_); intro h' gs' tk' t' F' N' hAB' hK')) | fail "no")
  k_with "ksenter" => (first | ((refine' Mine.ks_codeR (by k_asm) (by k_asm) (by k_asm) (by k_asm) (by k_asm) (by exact rfl) (by exact rfl) (by assumption) (by k_is) (by k_is) (by ktr_room) (by first | exact BindsTo.of_eq rfl | exact binds_K (by k_in) rfl (by k_is) rfl rfl rfl) (by exact locs rfl) ?_ (by decide) (by exact rfl) (by exact rfl) (by exact rfl); intro g' L' h' hG' FG' F' N' B' X' T' l1; (try k_lt l1); (try dsimp only); (try k_lift B'); (try k_fold))) | fail "no")
  k_with "getMethod ref" => (first | ((k_here; k_dflt (refine' Mine.meth_len_K (by k_asm) (by k_asm) (by k_asm) (by k_mem) (by k_inst) (by k_is) (by k_is) (by ks_is) (by decide) (by first | exact Mine.ty_len | exact Mine.ty_pop | exact Mine.ty_init) (by first | exact Or.inl ⟨rfl, rfl⟩ | exact Or.inr ⟨rfl, rfl⟩) (by first | exact Mine.nc_len | exact Mine.nc_pop | exact Mine.nc_init) (by decide +kernel) ?_; intro q' h' F' N' l1; (try k_lt l1)))) | fail "no")
  k_with "callWith ref" => (first | ((k_here; k_dflt (refine' Mine.callWith_B (by k_asm) (by k_mem) (by first | exact Or.inl rfl | exact Or.inr rfl) ?_))) | fail "no")
  k_with "call ref" => (first | ((k_here; k_dflt (first | (refine' Mine.call_len_K (by k_asm) (by k_mem) (by k_mem) ?_; intro t' tk') | (refine' Mine.call_pop_K (by k_asm) (by k_asm) (by k_asm) (by k_mem) (by k_upd) (by k_mem) (by exact rfl) (by rfl) (by k_is) (by k_is) (by walk_at "mylen") ?_; intro h' F' N')))) | fail "no")
  k_with "newsx" => (first | (first | (intro _; exact News.nil) | (intro nx; refine' Mine.News.one nx (by k_mem) (by walk_at "newsx"))) | fail "no")
  k_with "news" => (first | (first | assumption | (refine' Mine.News.one (by assumption) (by k_mem) (by walk_at "newsx")) | (refine News.perm (by assumption) ?_; simp; done) | (refine News.perm (by assumption) ?_; intro p hp; simp only [List.mem_cons, List.not_mem_nil, or_false] at hp ⊢; rcases hp with rfl | hp <;> simp_all)) | fail "no")
  k_with "kb" => (first | (exact Mine.KB.fin (by assumption) (by assumption)) | fail "no")
  k_with "mylen" => (first | (first | omega | (rw [PySem.sizeLine_eq]; omega)) | fail "no")
  k_with "call builtin:str.upper" => (first | ((k_here; (with_reducible show wpAny _ _ (call (Value.builtin "str.upper") [Value.str _ _]) _ _ _); (refine SCL.upper (by walk_at "mylen") ?_); intro _)) | fail "no")
  k_with "binaryOp Add str str" => (first | ((k_here; (with_reducible show wpAny _ _ (binaryOp Operator.Add (Value.str _ _) (Value.str _ _)) _ _ _); (refine' KXadd.add (by exact Nat.le_refl _) (by exact Nat.le_refl _) (by omega) ?_); intro _ _ _)) | fail "no")
  trivial
set_option maxHeartbeats 1000000 in
theorem word_ok (w : World) {p : Program} {loose : List PySem.Str} {mean : ExcName → Option Value} {mg mb : PySem.Str → Option Value} (dp un : Nat) (gd : Option (List Code)) (cn : PySem.Str) (cs : Scope) (a : Addr) (ccd : Value) (cl : List (PySem.Str × Addr)) (outer : List Env) (A₀ : Around) (base h₀ : Heap) (L : Addr) (m : PySem.Str → Option Value) (s : Shared) (Q E : Value → Shared → Prop) (n : Int) (tn : Tok)
    (B : Below A₀ base outer h₀) (F : Fr h₀ L s.heap m) (X : (Mine.hd.heap_1 w.params).In h₀) (T : Top p loose mean mg mb h₀) (hk : cs.kind = .function) (hd : dp + 4 < recursionLimit) (hu : un + 60 < cLine)
    (hret : ∀ y t h' tk', Wd y → Fr h₀ L h' m → KB [] s.heap h' → Q (.str y t) { s with heap := h', toks := tk' })
    : wpAny (model PySem.Challenge.rw_wn0105_01.row.prog w) (ktrTop dp un gd cn cs L a ccd cl outer) (call (.ref 245) [.int n tn]) Q E s := by
  have N : News h₀ L s.heap [] := .nil
  have f1 := fm (n := n) (k := 3) (by decide)
  have f2 := fm (n := n.fdiv 3) (k := 3) (by decide)
  have g1 := mul_item_len (k := n.fmod 3) (c := (n.fdiv 3).fmod 3) (by omega) (by omega)
  have w1 := wd_mul (k := n.fmod 3) (c := (n.fdiv 3).fmod 3) (by omega) (by omega)
  have w2 := wd_upper w1
  revert X; k_fill; intro X
  refine wpAny_call ?_
  k_dflt walk_at "myenter"
  (rename Fr _ _ _ _ => kF')
  replace kF' : Fr _ _ _ (fun y => List.lookup y [(Str.ofString "n", Value.int n tn)]) := kF'
  k_steps
  all_goals (exact hret _ _ _ _ (by assumption) (by k_asm) (by walk_at "kb"))
set_option maxHeartbeats 1000000 in
theorem agent_ok (w : World) {p : Program} {loose : List PySem.Str} {mean : ExcName → Option Value} {mg mb : PySem.Str → Option Value} (dp un : Nat) (gd : Option (List Code)) (cn : PySem.Str) (cs : Scope) (a : Addr) (ccd : Value) (cl : List (PySem.Str × Addr)) (outer : List Env) (A₀ : Around) (base h₀ : Heap) (L : Addr) (m : PySem.Str → Option Value) (s : Shared) (Q E : Value → Shared → Prop) (n : Int) (tn : Tok)
    (B : Below A₀ base outer h₀) (F : Fr h₀ L s.heap m) (X : (Mine.hd.heap_1 w.params).In h₀) (T : Top p loose mean mg mb h₀) (hk : cs.kind = .function) (hd : dp + 4 < recursionLimit) (hu : un + 60 < cLine)
    (hret : ∀ y t h' tk', Ag y → Fr h₀ L h' m → KB [] s.heap h' → Q (.str y t) { s with heap := h', toks := tk' })
    : wpAny (model PySem.Challenge.rw_wn0105_01.row.prog w) (ktrTop dp un gd cn cs L a ccd cl outer) (call (.ref 238) [.int n tn]) Q E s := by
  have N : News h₀ L s.heap [] := .nil
  have hs1l : (Str.ofString " ").length = 1 := by decide +kernel
  have f1 := fm (n := n) (k := 3) (by decide)
  have f2 := fm (n := n.fdiv 3) (k := 3) (by decide)
  have f3 := fm (n := n.fdiv 9) (k := 2) (by decide)
  have f4 := fm (n := n.fdiv 18) (k := 2) (by decide)
  have g1 := mul_item_len (k := n.fmod 3) (c := (n.fdiv 9).fmod 2) (by omega) (by omega)
  have g2 := mul_item_len (k := (n.fdiv 3).fmod 3) (c := (n.fdiv 18).fmod 2) (by omega) (by omega)
  have w1 := ag_mul (k := n.fmod 3) (c := (n.fdiv 9).fmod 2) (j := (n.fdiv 3).fmod 3) (d := (n.fdiv 18).fmod 2) (by omega) (by omega) (by omega) (by omega)
  have w2 := ag_upper w1
  have w3 := w1.len
  revert X; k_fill; intro X
  refine wpAny_call ?_
  k_dflt walk_at "myenter"
  (rename Fr _ _ _ _ => kF')
  replace kF' : Fr _ _ _ (fun y => List.lookup y [(Str.ofString "n", Value.int n tn)]) := kF'
  k_steps
  all_goals (exact hret _ _ _ _ (by assumption) (by k_asm) (by walk_at "kb"))
end Mine
end
section
open PySem PySem.W PyProof.Rows PySem.Calls PySem.Spec
set_option maxRecDepth 100000
namespace Mine
theorem bestT_bad (bad : Nat → Nat → Bool) (most : List Int) (j : Nat) : ∀ k i, i < k → bad i j = true → 1 + most.getD (i + 1) 0 ≤ bestT bad most j k
  | k + 1, i, hi, hb => by
    by_cases h : i = k
    · subst h
      unfold bestT
      rw [if_pos hb]
      split <;> omega
    · have := bestT_bad bad most j k i (by omega) hb
      unfold bestT
      split
      · split <;> omega
      · exact this
theorem bestT_att (bad : Nat → Nat → Bool) (most : List Int) (j : Nat) : ∀ k, bestT bad most j k = most.getD (j - 1) 0 ∨ ∃ i, i < k ∧ bad i j = true ∧ bestT bad most j k = 1 + most.getD (i + 1) 0
  | 0 => .inl rfl
  | k + 1 => by
    have ih := bestT_att bad most j k
    have up : (bestT bad most j k = most.getD (j - 1) 0 ∨ ∃ i, i < k ∧ bad i j = true ∧ bestT bad most j k = 1 + most.getD (i + 1) 0) → (bestT bad most j k = most.getD (j - 1) 0 ∨ ∃ i, i < k + 1 ∧ bad i j = true ∧ bestT bad most j k = 1 + most.getD (i + 1) 0) :=
      fun h => h.imp id fun ⟨i, h1, h2⟩ => ⟨i, by omega, h2⟩
    by_cases hb : bad k j = true
    · by_cases hc : 1 + most.getD (k + 1) 0 > bestT bad most j k
      · have e : bestT bad most j (k + 1) = 1 + most.getD (k + 1) 0 := by
          conv => lhs; unfold bestT
          rw [if_pos hb, if_pos hc]
        exact .inr ⟨k, by omega, hb, e⟩
      · have e : bestT bad most j (k + 1) = bestT bad most j k := by
          conv => lhs; unfold bestT
          rw [if_pos hb, if_neg hc]
        rw [e]; exact up ih
    · have e : bestT bad most j (k + 1) = bestT bad most j k := by
        conv => lhs; unfold bestT
        rw [if_neg hb]
      rw [e]; exact up ih
theorem mostT_stable (bad : Nat → Nat → Bool) {i t : Nat} (h : i < t + 2) : ∀ d, (mostT bad (t + d)).getD i 0 = (mostT bad t).getD i 0
  | 0 => rfl
  | d + 1 => by rw [show t + (d + 1) = (t + d) + 1 from rfl, mostT_old bad (by omega), mostT_stable bad h d]
/-- the table as natural numbers -/
def mT (bad : Nat → Nat → Bool) (t : Nat) (j : Nat) : Nat := ((mostT bad t).getD j 0).toNat
theorem mT_int (bad : Nat → Nat → Bool) {t j : Nat} (h : j < t + 2) : ((mT bad t j : Nat) : Int) = (mostT bad t).getD j 0 := by
  have := ((mostT_facts bad t).1 j h).1
  unfold mT; omega
theorem mT_tab (bad : Nat → Nat → Bool) (t : Nat) : PL.Tab (fun i j => bad i j = true) (t + 1) (mT bad t) := by
  have row : ∀ j, 2 ≤ j → j ≤ t + 1 → (mostT bad t).getD j 0 = bestT bad (mostT bad (j - 2)) j (j - 1) := by
    intro j h2 hj
    have e := mostT_stable bad (i := j) (t := j - 2 + 1) (by omega) (t - (j - 2 + 1))
    rw [show j - 2 + 1 + (t - (j - 2 + 1)) = t by omega] at e
    rw [e]
    have := mostT_new bad (t := j - 2)
    rw [show j - 2 + 2 = j by omega, show j - 2 + 1 = j - 1 by omega] at this
    rw [show j - 2 + 1 = j - 1 by omega]; exact this
  have old : ∀ j i, 2 ≤ j → j ≤ t + 1 → i < j → (mostT bad (j - 2)).getD i 0 = (mostT bad t).getD i 0 := by
    intro j i h2 hj hi
    have e := mostT_stable bad (i := i) (t := j - 2) (by omega) (t - (j - 2))
    rw [show j - 2 + (t - (j - 2)) = t by omega] at e
    exact e.symm
  refine ⟨?_, ?_, ?_, ?_, ?_⟩
  · have := (mostT_facts bad t).1 0 (by omega)
    unfold mT; omega
  · have e := mostT_stable bad (i := 1) (t := 0) (by omega) t
    rw [Nat.zero_add] at e
    unfold mT
    rw [e]; rfl
  · intro j h2 hj
    have h1 := bestT_ge bad (mostT bad (j - 2)) j (j - 1)
    rw [← row j h2 hj, old j (j - 1) h2 hj (by omega), ← mT_int bad (by omega), ← mT_int bad (by omega)] at h1
    omega
  · intro i j hi hj hb
    have h1 := bestT_bad bad (mostT bad (j - 2)) j (j - 1) i (by omega) hb
    rw [← row j (by omega) hj, old j (i + 1) (by omega) hj (by omega), ← mT_int bad (by omega), ← mT_int bad (by omega)] at h1
    omega
  · intro j h2 hj
    rcases bestT_att bad (mostT bad (j - 2)) j (j - 1) with h | ⟨i, hi, hb, h⟩
    · left
      rw [← row j h2 hj, old j (j - 1) h2 hj (by omega), ← mT_int bad (by omega), ← mT_int bad (by omega)] at h
      omega
    · right
      rw [← row j h2 hj, old j (i + 1) h2 hj (by omega), ← mT_int bad (by omega), ← mT_int bad (by omega)] at h
      exact ⟨i, by omega, hb, by omega⟩
/-- greedy rows: the row of word j, the place where the row starts -/
def gS (bad : Nat → Nat → Bool) : Nat → Nat × Nat
  | 0 => (0, 0)
  | j + 1 => if bad (gS bad j).2 (j + 2) then ((gS bad j).1 + 1, j + 1) else gS bad j
theorem gS_facts (bad : Nat → Nat → Bool) : ∀ j, (gS bad j).2 ≤ j ∧ (gS bad (gS bad j).2).1 = (gS bad j).1 ∧ (∀ i, i < (gS bad j).2 → (gS bad i).1 < (gS bad j).1) ∧ (∀ i, i ≤ j → (gS bad i).1 ≤ (gS bad j).1)
  | 0 => ⟨Nat.le_refl _, rfl, fun i hi => absurd hi (Nat.not_lt_zero _), fun i hi => (by have e : i = 0 := Nat.le_zero.mp hi
                                                                                         rw [e]; exact Nat.le_refl _)⟩
  | j + 1 => by
    obtain ⟨h1, h2, h3, h4⟩ := gS_facts bad j
    by_cases hb : bad (gS bad j).2 (j + 2) = true
    · have e : gS bad (j + 1) = ((gS bad j).1 + 1, j + 1) := by rw [gS, if_pos hb]
      rw [e]
      dsimp only
      refine ⟨Nat.le_refl _, by rw [e], fun i hi => ?_, fun i hi => ?_⟩
      · have := h4 i (by omega); omega
      · by_cases h : i = j + 1
        · subst h; rw [e]; exact Nat.le_refl _
        · have := h4 i (by omega); omega
    · have e : gS bad (j + 1) = gS bad j := by rw [gS, if_neg hb]
      rw [e]
      refine ⟨by omega, h2, h3, fun i hi => ?_⟩
      by_cases h : i = j + 1
      · subst h; rw [e]; exact Nat.le_refl _
      · exact h4 i (by omega)
theorem told_greedy (bad : Nat → Nat → Bool) (t : Nat) (hm : ∀ i i' j j', i' ≤ i → j ≤ j' → j' ≤ t + 1 → i ≤ j → bad i j = true → bad i' j' = true) : ∀ j, j < t + 1 → mT bad t (j + 1) = (gS bad j).1 :=
  (mT_tab bad t).greedy (r := fun j => (gS bad j).1) (st := fun j => (gS bad j).2) hm rfl (fun j _ => (gS_facts bad j).1) (fun j _ => (gS_facts bad j).2.1) (fun j i _ hi => (gS_facts bad j).2.2.1 i hi)
    (fun j _ hb => by show (gS bad (j + 1)).1 = _; rw [gS, if_pos hb]) (fun j _ hb => by show (gS bad (j + 1)).1 = _; rw [gS, if_neg hb])
end Mine
end
section
open PySem PySem.W PyProof.Rows PySem.Calls PySem.Spec PySem.Builtin PySem.Builtin.Str
set_option maxRecDepth 100000
namespace Mine
theorem contains_iff (x y : PySem.Str) : Txt.contains x y = true ↔ ∃ l r, cs x = l ++ cs y ++ r := by
  unfold Txt.contains
  rw [StrLaws.found_iff]
  constructor
  · rintro ⟨i, hi, hs⟩
    rw [StrLaws.subAt_eq] at hs
    have hs := eq_of_beq hs
    refine ⟨(cs x).take i, (cs x).drop (i + y.length), ?_⟩
    have e1 : cs y = ((cs x).drop i).take y.length := hs.symm
    rw [e1, List.append_assoc, ← List.drop_drop, List.take_append_drop, List.take_append_drop]
  · rintro ⟨l, r, e⟩
    refine ⟨l.length, ?_, ?_⟩
    · rw [len_cs, len_cs, e]
      simp only [List.length_append]; omega
    · rw [StrLaws.subAt_eq]
      have h1 : (x.cps.toList.drop l.length).take y.length = y.cps.toList := by
        show ((cs x).drop l.length).take y.length = cs y
        rw [e, List.append_assoc, List.drop_left, len_cs, List.take_left]
      rw [h1]; exact beq_self_eq_true _
theorem cs_lower {x : PySem.Str} (h : ∀ c ∈ cs x, c < 128) : cs (Txt.lower x) = (cs x).map lo1 := by
  rw [lower_ascii h]
  simp [cs]
theorem Ag.ascii {a : PySem.Str} (h : Ag a) : ∀ c ∈ cs a, c < 128 := fun c hc => by
  rcases h.signs c hc with rfl | h
  · decide
  · exact h.lt
theorem txt_asciiW {ws : List PySem.Str} (h : ∀ u ∈ ws, Wd u) : ∀ c ∈ cs (txt ws), c < 128 := fun c hc => by
  rcases txt_signs h c hc with rfl | h
  · decide
  · exact h.lt
/-- the text, small: agent a stands in the words ws -/
def In1 (a : PySem.Str) (ws : List PySem.Str) : Prop := ∃ l r, (cs (txt ws)).map lo1 = l ++ (cs a).map lo1 ++ r
theorem hit1_iff {a : PySem.Str} {ws : List PySem.Str} (ha : Ag a) (hw : ∀ u ∈ ws, Wd u) : Txt.contains (Txt.lower (txt ws)) (Txt.lower a) = true ↔ In1 a ws := by
  rw [contains_iff, cs_lower (txt_asciiW hw), cs_lower ha.ascii]; rfl
def Bd (mxl : Int) (a1 a2 a3 : PySem.Str) (ws : List PySem.Str) : Bool := decide (lenW ws > mxl) || hit3 a1 a2 a3 (txt ws)
theorem badT_Bd {mxl : Int} {a1 a2 a3 : PySem.Str} {ws : List PySem.Str} (hw : ∀ u ∈ ws, Wd u) : badT mxl a1 a2 a3 ws = Bd mxl a1 a2 a3 ws := by
  unfold badT Bd hit3
  have e1 : ((Txt.lower (txt ws)).length : Int) = lenW ws := by
    rw [lenW_txt, len_cs, len_cs, cs_lower (txt_asciiW hw), List.length_map]
  rw [e1]
  congr 1
  cases h1 : Txt.contains (Txt.lower (txt ws)) (Txt.lower a1) <;> cases h2 : Txt.contains (Txt.lower (txt ws)) (Txt.lower a2) <;> cases h3 : Txt.contains (Txt.lower (txt ws)) (Txt.lower a3) <;> simp [h1, h2, h3]
theorem hit3_iff {a1 a2 a3 : PySem.Str} {ws : List PySem.Str} (h1 : Ag a1) (h2 : Ag a2) (h3 : Ag a3) (hw : ∀ u ∈ ws, Wd u) : hit3 a1 a2 a3 (txt ws) = true ↔ In1 a1 ws ∨ In1 a2 ws ∨ In1 a3 ws := by
  unfold hit3
  rw [Bool.or_eq_true, Bool.or_eq_true, hit1_iff h1 hw, hit1_iff h2 hw, hit1_iff h3 hw, or_assoc]
theorem Bd_iff {mxl : Int} {a1 a2 a3 : PySem.Str} {ws : List PySem.Str} (h1 : Ag a1) (h2 : Ag a2) (h3 : Ag a3) (hw : ∀ u ∈ ws, Wd u) : Bd mxl a1 a2 a3 ws = true ↔ lenW ws > mxl ∨ In1 a1 ws ∨ In1 a2 ws ∨ In1 a3 ws := by
  unfold Bd
  rw [Bool.or_eq_true, hit3_iff h1 h2 h3 hw, decide_eq_true_iff]
theorem cs_txt_app (a b : List PySem.Str) : cs (txt (a ++ b)) = cs (txt a) ++ cs (txt b) := by
  rw [cs_txt, cs_txt, cs_txt, List.map_append, List.flatten_append]
theorem In1.wider {a : PySem.Str} {ws p s : List PySem.Str} (h : In1 a ws) : In1 a (p ++ ws ++ s) := by
  obtain ⟨l, r, e⟩ := h
  refine ⟨(cs (txt p)).map lo1 ++ l, r ++ (cs (txt s)).map lo1, ?_⟩
  rw [cs_txt_app, cs_txt_app, List.map_append, List.map_append, e]
  simp only [List.append_assoc]
theorem lenW_nn (ws : List PySem.Str) : 0 ≤ lenW ws := by rw [lenW_txt]; omega
theorem lenW_app (a b : List PySem.Str) : lenW (a ++ b) = lenW a + lenW b := by
  rw [lenW_txt, lenW_txt, lenW_txt, len_cs, len_cs, len_cs, cs_txt_app, List.length_append]; push_cast; rfl
theorem Bd_wider {mxl : Int} {a1 a2 a3 : PySem.Str} {ws p s : List PySem.Str} (h1 : Ag a1) (h2 : Ag a2) (h3 : Ag a3) (hw : ∀ u ∈ p ++ ws ++ s, Wd u) (h : Bd mxl a1 a2 a3 ws = true) : Bd mxl a1 a2 a3 (p ++ ws ++ s) = true := by
  have hw' : ∀ u ∈ ws, Wd u := fun u hu => hw u (List.mem_append_left _ (List.mem_append_right _ hu))
  rw [Bd_iff h1 h2 h3 hw'] at h
  rw [Bd_iff h1 h2 h3 hw]
  rcases h with h | h | h | h
  · left
    rw [lenW_app, lenW_app]
    have := lenW_nn p
    have := lenW_nn s
    omega
  · exact .inr (.inl h.wider)
  · exact .inr (.inr (.inl h.wider))
  · exact .inr (.inr (.inr h.wider))
theorem slc_split (words : List PySem.Str) {i i' j j' : Nat} (h1 : i' ≤ i) (h2 : i ≤ j) (h3 : j ≤ j') (h4 : j' ≤ words.length) : slc words i' j' = slc words i' i ++ slc words i j ++ slc words j j' := by
  have two : ∀ {a b c : Nat}, a ≤ b → b ≤ c → slc words a c = slc words a b ++ slc words b c := by
    intro a b c hab hbc
    unfold slc
    rw [show words.take b = (words.take c).take b by rw [List.take_take, Nat.min_eq_left hbc]]
    generalize words.take c = l
    rw [show l.drop a = (l.take b ++ l.drop b).drop a by rw [List.take_append_drop], List.drop_append]
    congr 1
    by_cases hb : b ≤ l.length
    · rw [List.length_take, Nat.min_eq_left hb, show a - b = 0 by omega]; rfl
    · rw [List.drop_of_length_le (l := l) (i := b) (by omega)]; simp
  rw [two (Nat.le_trans h1 h2) h3, two h1 h2]
theorem Bd_mono {mxl : Int} {a1 a2 a3 : PySem.Str} {words : List PySem.Str} (h1 : Ag a1) (h2 : Ag a2) (h3 : Ag a3) (hw : ∀ u ∈ words, Wd u) : ∀ i i' j j', i' ≤ i → j ≤ j' → j' ≤ words.length → i ≤ j → Bd mxl a1 a2 a3 (slc words i j) = true → Bd mxl a1 a2 a3 (slc words i' j') = true := by
  intro i i' j j' hi hj hn hij h
  rw [slc_split words hi hij hj hn]
  refine Bd_wider h1 h2 h3 (fun u hu => hw u ?_) h
  rw [← slc_split words hi hij hj hn] at hu
  exact slc_mem hu
theorem solo {a : PySem.Str} {v : PySem.Str} (ha : Ag a) (hv : Wd v) : ¬ In1 a [v] := by
  rintro ⟨l, r, e⟩
  obtain ⟨c, k, d, j, ea, _, _, hc, hd⟩ := ha
  obtain ⟨x, q, ev, _, hx⟩ := hv
  have hlo : ∀ z, Sg z → lo1 z ≠ 32 := by
    intro z hz
    rcases hz with rfl | rfl | rfl | rfl | rfl <;> decide +kernel
  have e0 : cs (txt [v]) = 32 :: List.replicate (q + 1) x := by rw [cs_txt]; simp [ev]
  rw [e0, ea] at e
  simp only [List.map_cons, List.map_append, List.map_replicate] at e
  have h32 : lo1 32 = 32 := by decide +kernel
  rw [h32] at e
  have e1 : (32 :: List.replicate (q + 1) (lo1 x))[l.length + (k + 1)]? = some 32 := by
    rw [e]
    simp only [List.append_assoc, List.cons_append]
    rw [List.getElem?_append_right (by omega), show l.length + (k + 1) - l.length = k + 1 by omega, List.getElem?_append_right (by simp)]
    simp
  rw [show l.length + (k + 1) = (l.length + k) + 1 by omega, List.getElem?_cons_succ, List.getElem?_replicate] at e1
  split at e1
  · exact hlo x hx (Option.some.inj e1)
  · cases e1
theorem hit3_solo {a1 a2 a3 v : PySem.Str} (h1 : Ag a1) (h2 : Ag a2) (h3 : Ag a3) (hv : Wd v) : hit3 a1 a2 a3 (txt [v]) = false := by
  cases h : hit3 a1 a2 a3 (txt [v]) with
  | false => rfl
  | true =>
    rw [hit3_iff h1 h2 h3 (by intro u hu; rw [List.mem_singleton.mp hu]; exact hv)] at h
    rcases h with h | h | h
    · exact absurd h (solo h1 hv)
    · exact absurd h (solo h2 hv)
    · exact absurd h (solo h3 hv)
end Mine
end
section
open PySem PySem.W PyProof.Rows PySem.Calls PySem.Spec
set_option maxRecDepth 100000
namespace Mine
theorem stepF_B {mxl : Int} {a1 a2 a3 : PySem.Str} {lines ws : List PySem.Str} {v : PySem.Str} (hne : ws ≠ []) :
    stepF mxl a1 a2 a3 (lines, ws) v = if Bd mxl a1 a2 a3 (ws ++ [v]) then (lines ++ [txt ws], [v]) else (lines, ws ++ [v]) := by
  cases hh : hit3 a1 a2 a3 (txt ws ++ Str.ofString " " ++ v) with
  | true =>
    rw [step_yes hh]
    have e : Bd mxl a1 a2 a3 (ws ++ [v]) = true := by unfold Bd; rw [txt_snoc, hh, Bool.or_true]
    rw [e, if_pos rfl]
  | false =>
    rw [step_no hh]
    have e : cutB mxl ws v = Bd mxl a1 a2 a3 (ws ++ [v]) := by
      unfold Bd cutB
      rw [txt_snoc, hh, Bool.or_false]
      cases ws with
      | nil => exact absurd rfl hne
      | cons a r => rfl
    rw [e]
theorem slc_snoc {words : List PySem.Str} {i j : Nat} (hi : i ≤ j) (hj : j < words.length) : slc words i (j + 1) = slc words i j ++ [words[j]] := by
  unfold slc
  rw [List.take_add_one, List.getElem?_eq_getElem hj, List.drop_append]
  rw [show i - (words.take j).length = 0 by rw [List.length_take]; omega]
  rfl
theorem slc_ne {words : List PySem.Str} {i j : Nat} (hi : i < j) (hj : j ≤ words.length) : slc words i j ≠ [] := by
  intro e
  have := congrArg List.length e
  unfold slc at this
  rw [List.length_drop, List.length_take, List.length_nil] at this
  omega
abbrev bdW (mxl : Int) (a1 a2 a3 : PySem.Str) (words : List PySem.Str) (i j : Nat) : Bool := Bd mxl a1 a2 a3 (slc words i j)
section
variable {mxl : Int} {a1 a2 a3 : PySem.Str} {words : List PySem.Str} (h1 : Ag a1) (h2 : Ag a2) (h3 : Ag a3) (hw : ∀ u ∈ words, Wd u)
include h1 h2 h3 hw
theorem fold_first (h0 : 0 < words.length) : foldS mxl a1 a2 a3 (words.take 1) = ([], [words[0]]) := by
  have e : words.take 1 = [words[0]] := by
    cases words with
    | nil => exact absurd h0 (Nat.lt_irrefl _)
    | cons a r => rfl
  rw [e]
  have hs := hit3_solo h1 h2 h3 (hw _ (List.getElem_mem h0))
  show stepF mxl a1 a2 a3 ([], []) words[0] = _
  rw [step_no (by rw [← txt_snoc]; exact hs)]
  rfl
theorem fold_greedy : ∀ j, j < words.length → ∃ lines, foldS mxl a1 a2 a3 (words.take (j + 1)) = (lines, slc words (gS (bdW mxl a1 a2 a3 words) j).2 (j + 1)) ∧ lines.length = (gS (bdW mxl a1 a2 a3 words) j).1
  | 0, hj => by
    refine ⟨[], ?_, rfl⟩
    rw [fold_first h1 h2 h3 hw hj]
    have e : slc words 0 (0 + 1) = [words[0]] := by
      rw [slc_snoc (Nat.le_refl _) hj]
      rfl
    show _ = ([], slc words 0 (0 + 1))
    rw [e]
  | j + 1, hj => by
    obtain ⟨lines, e, hl⟩ := fold_greedy j (by omega)
    have hst := (gS_facts (bdW mxl a1 a2 a3 words) j).1
    rw [List.take_add_one, List.getElem?_eq_getElem hj]
    show ∃ lines, foldS mxl a1 a2 a3 (words.take (j + 1) ++ [words[j + 1]]) = _ ∧ _
    rw [foldS_snoc, e, stepF_B (slc_ne (by omega) (by omega)), ← slc_snoc (by omega) hj]
    by_cases hb : bdW mxl a1 a2 a3 words (gS (bdW mxl a1 a2 a3 words) j).2 (j + 2) = true
    · have eg : gS (bdW mxl a1 a2 a3 words) (j + 1) = ((gS (bdW mxl a1 a2 a3 words) j).1 + 1, j + 1) := by rw [gS, if_pos hb]
      rw [eg]
      refine ⟨lines ++ [txt (slc words (gS (bdW mxl a1 a2 a3 words) j).2 (j + 1))], ?_, by rw [List.length_append, hl]; rfl⟩
      rw [if_pos hb]
      have e2 : slc words (j + 1) (j + 1 + 1) = [words[j + 1]] := by
        rw [slc_snoc (Nat.le_refl _) hj]
        have : slc words (j + 1) (j + 1) = [] := by
          unfold slc; exact List.drop_of_length_le (by rw [List.length_take]; omega)
        rw [this]; rfl
      rw [e2]
    · have eg : gS (bdW mxl a1 a2 a3 words) (j + 1) = gS (bdW mxl a1 a2 a3 words) j := by rw [gS, if_neg hb]
      rw [eg]
      refine ⟨lines, ?_, hl⟩
      rw [if_neg hb]
end
theorem set_mid {A C : List PySem.Str} {x y : PySem.Str} {r : Nat} (hr : r = A.length) : (A ++ x :: C).set r y = A ++ y :: C ∧ (A ++ x :: C).getD r (Str.ofString "") = x := by
  subst hr
  refine ⟨by simp, by simp⟩
theorem glue_txt (ws : List PySem.Str) (v : PySem.Str) : txt ws ++ (Str.ofString " " ++ v) = txt (ws ++ [v]) := by
  rw [txt_snoc, PySem.Str.append_assoc]
theorem glue_one (v : PySem.Str) : Str.ofString "" ++ (Str.ofString " " ++ v) = txt [v] := by
  have := glue_txt [] v
  rw [txt_nil] at this
  exact this
section
variable {mxl : Int} {a1 a2 a3 : PySem.Str} {words : List PySem.Str} (h1 : Ag a1) (h2 : Ag a2) (h3 : Ag a3) (hw : ∀ u ∈ words, Wd u) {t : Nat} (ht : words.length = t + 1)
include h1 h2 h3 hw ht
theorem idx_greedy {q : Nat} (hq : q < words.length) : ((mostT (bdW mxl a1 a2 a3 words) t).getD (q + 1) 0).toNat = (gS (bdW mxl a1 a2 a3 words) q).1 :=
  told_greedy (bdW mxl a1 a2 a3 words) t (fun i i' j j' a b c d e => Bd_mono h1 h2 h3 hw i i' j j' a b (by omega) d e) q (by omega)
theorem rows_greedy : ∀ q, q < words.length → rowsT words (mostT (bdW mxl a1 a2 a3 words) t) (q + 1) =
    (foldS mxl a1 a2 a3 (words.take (q + 1))).1 ++ txt (foldS mxl a1 a2 a3 (words.take (q + 1))).2 :: List.replicate ((gS (bdW mxl a1 a2 a3 words) t).1 - (gS (bdW mxl a1 a2 a3 words) q).1) (Str.ofString "")
  | 0, hq => by
    rw [fold_first h1 h2 h3 hw hq, rowsT, rowsT, idx_greedy h1 h2 h3 hw ht hq, mostT_len]
    have e : ((mostT (bdW mxl a1 a2 a3 words) t).getD (t + 2 - 1) 0 + 1).toNat = (gS (bdW mxl a1 a2 a3 words) t).1 + 1 := by
      have e1 := idx_greedy (mxl := mxl) h1 h2 h3 hw ht (q := t) (by omega)
      have e2 := ((mostT_facts (bdW mxl a1 a2 a3 words) t).1 (t + 1) (by omega)).1
      rw [show t + 2 - 1 = t + 1 from rfl]
      omega
    rw [e, List.replicate_succ]
    have hg : (gS (bdW mxl a1 a2 a3 words) 0).1 = 0 := rfl
    rw [hg]
    have hw0 : words.getD 0 (Str.ofString "") = words[0] := by rw [List.getD_eq_getElem?_getD, List.getElem?_eq_getElem hq]; rfl
    rw [hw0]
    have := set_mid (A := []) (C := List.replicate (gS (bdW mxl a1 a2 a3 words) t).1 (Str.ofString "")) (x := Str.ofString "") (y := Str.ofString "" ++ (Str.ofString " " ++ words[0])) (r := 0) rfl
    rw [List.nil_append, List.nil_append] at this
    rw [this.2, this.1, glue_one]
    rfl
  | q + 1, hq => by
    have ih := rows_greedy q (by omega)
    obtain ⟨lines, e, hl⟩ := fold_greedy (mxl := mxl) h1 h2 h3 hw q (by omega)
    have hst := (gS_facts (bdW mxl a1 a2 a3 words) q).1
    have hR := (gS_facts (bdW mxl a1 a2 a3 words) t).2.2.2 (q + 1) (by omega)
    rw [rowsT, ih, idx_greedy h1 h2 h3 hw ht hq]
    have hwq : words.getD (q + 1) (Str.ofString "") = words[q + 1] := by rw [List.getD_eq_getElem?_getD, List.getElem?_eq_getElem hq]; rfl
    have etk : words.take (q + 1 + 1) = words.take (q + 1) ++ [words[q + 1]] := by rw [List.take_add_one, List.getElem?_eq_getElem hq]; rfl
    rw [hwq, etk, foldS_snoc, e, stepF_B (slc_ne (by omega) (by omega)), ← slc_snoc (by omega) hq]
    dsimp only
    by_cases hb : bdW mxl a1 a2 a3 words (gS (bdW mxl a1 a2 a3 words) q).2 (q + 2) = true
    · have eg : gS (bdW mxl a1 a2 a3 words) (q + 1) = ((gS (bdW mxl a1 a2 a3 words) q).1 + 1, q + 1) := by rw [gS, if_pos hb]
      rw [eg] at hR ⊢
      dsimp only at hR ⊢
      rw [if_pos hb]
      have er : List.replicate ((gS (bdW mxl a1 a2 a3 words) t).1 - (gS (bdW mxl a1 a2 a3 words) q).1) (Str.ofString "") = Str.ofString "" :: List.replicate ((gS (bdW mxl a1 a2 a3 words) t).1 - ((gS (bdW mxl a1 a2 a3 words) q).1 + 1)) (Str.ofString "") := by
        rw [← List.replicate_succ]; congr 1; omega
      rw [er]
      have := set_mid (A := lines ++ [txt (slc words (gS (bdW mxl a1 a2 a3 words) q).2 (q + 1))]) (C := List.replicate ((gS (bdW mxl a1 a2 a3 words) t).1 - ((gS (bdW mxl a1 a2 a3 words) q).1 + 1)) (Str.ofString "")) (x := Str.ofString "") (y := Str.ofString "" ++ (Str.ofString " " ++ words[q + 1])) (r := (gS (bdW mxl a1 a2 a3 words) q).1 + 1) (by rw [List.length_append, hl]; rfl)
      rw [List.append_assoc, List.cons_append, List.nil_append, List.append_assoc, List.cons_append, List.nil_append] at this
      rw [this.2, this.1, glue_one, List.append_assoc]
      rfl
    · have eg : gS (bdW mxl a1 a2 a3 words) (q + 1) = gS (bdW mxl a1 a2 a3 words) q := by rw [gS, if_neg hb]
      rw [eg]
      rw [if_neg hb]
      have := set_mid (A := lines) (C := List.replicate ((gS (bdW mxl a1 a2 a3 words) t).1 - (gS (bdW mxl a1 a2 a3 words) q).1) (Str.ofString "")) (x := txt (slc words (gS (bdW mxl a1 a2 a3 words) q).2 (q + 1))) (y := txt (slc words (gS (bdW mxl a1 a2 a3 words) q).2 (q + 1)) ++ (Str.ofString " " ++ words[q + 1])) (r := (gS (bdW mxl a1 a2 a3 words) q).1) hl.symm
      rw [this.2, this.1, glue_txt, ← slc_snoc (by omega) hq]
theorem rows_len : (rowsF mxl a1 a2 a3 words).length = mT (bdW mxl a1 a2 a3 words) t (t + 1) + 1 := by
  obtain ⟨lines, e, hl⟩ := fold_greedy (mxl := mxl) h1 h2 h3 hw t (by omega)
  rw [show words.take (t + 1) = words from by rw [← ht, List.take_length]] at e
  unfold rowsF mT
  rw [e, idx_greedy h1 h2 h3 hw ht (by omega), List.length_append, hl]
  rfl
theorem rows_eq : rowsF mxl a1 a2 a3 words = rowsT words (mostT (fun i j => badT mxl a1 a2 a3 (slc words i j)) (words.length - 1)) words.length := by
  have eb : (fun i j => badT mxl a1 a2 a3 (slc words i j)) = bdW mxl a1 a2 a3 words := by
    funext i j
    exact badT_Bd fun u hu => slc_wd hw hu
  rw [eb, ht, Nat.add_sub_cancel, rows_greedy h1 h2 h3 hw ht t (by omega), Nat.sub_self]
  rw [show words.take (t + 1) = words from by rw [← ht, List.take_length]]
  rfl
end
end Mine
end
section
open PySem PySem.W PyProof.Rows PySem.Calls PySem.Spec
set_option maxRecDepth 100000
namespace Mine
theorem Ag.rev {a a' : PySem.Str} (h : Ag a) (e : cs a' = (cs a).reverse) : Ag a' := by
  obtain ⟨c, k, d, l, ea, hk, hl, hc, hd⟩ := h
  refine ⟨d, l, c, k, ?_, hl, hk, hd, hc⟩
  rw [e, ea, List.reverse_append, List.reverse_cons, List.reverse_replicate, List.reverse_replicate, List.append_assoc]
  rfl
theorem Wd.pal {u : PySem.Str} (h : Wd u) : (cs u).reverse = cs u := by
  obtain ⟨c, k, e, _, _⟩ := h
  rw [e, List.reverse_replicate]
theorem shift32 : ∀ L : List (List Nat), 32 :: (L.map (· ++ [32])).flatten = (L.map (32 :: ·)).flatten ++ [32]
  | [] => rfl
  | w :: r => by
    have ih := shift32 r
    simp only [List.map_cons, List.flatten_cons, List.cons_append, List.append_assoc]
    rw [← ih]
    rfl
theorem txt_rev {ws : List PySem.Str} (hw : ∀ u ∈ ws, Wd u) : cs (txt ws.reverse) ++ [32] = 32 :: (cs (txt ws)).reverse := by
  rw [cs_txt, cs_txt]
  have e1 : (ws.reverse.map fun v => 32 :: cs v) = (ws.reverse.map cs).map (32 :: ·) := by rw [List.map_map]; rfl
  rw [e1, ← shift32]
  congr 1
  rw [List.reverse_flatten, List.map_map]
  congr 1
  rw [List.map_map, ← List.map_reverse]
  apply List.map_congr_left
  intro u hu
  simp only [Function.comp, List.reverse_cons]
  rw [(hw u (List.mem_reverse.mp hu)).pal]
theorem lo_ne {z : Nat} (h : Sg z) : lo1 z ≠ 32 := by
  rcases h with rfl | rfl | rfl | rfl | rfl <;> decide +kernel
theorem In1.rev {a a' : PySem.Str} {ws : List PySem.Str} (ha : Ag a) (e : cs a' = (cs a).reverse) (hw : ∀ u ∈ ws, Wd u) (h : In1 a ws) : In1 a' ws.reverse := by
  obtain ⟨l, r, h⟩ := h
  have h32 : lo1 32 = 32 := by decide +kernel
  have e1 : (cs (txt ws.reverse)).map lo1 ++ [32] = (32 :: r.reverse) ++ (cs a').map lo1 ++ l.reverse := by
    have e0 := congrArg (List.map lo1) (txt_rev hw)
    rw [List.map_append, List.map_cons, List.map_cons, List.map_nil, h32, List.map_reverse, h] at e0
    rw [e0, e, List.map_reverse, List.reverse_append, List.reverse_append]
    simp only [List.cons_append, List.append_assoc]
  rcases List.eq_nil_or_concat l.reverse with hl | ⟨l2, z, hl⟩
  · exfalso
    obtain ⟨c, k, d, j, ea, _, _, hc, hd⟩ := ha.rev e
    rw [hl, List.append_nil, ea] at e1
    simp only [List.map_append, List.map_cons, List.map_replicate] at e1
    rw [show List.replicate (j + 1) (lo1 d) = List.replicate j (lo1 d) ++ [lo1 d] from List.replicate_succ'] at e1
    have e2 := congrArg List.getLast? e1
    simp only [List.cons_append, ← List.append_assoc, List.getLast?_append, ← List.cons_append] at e2
    simp at e2
    exact lo_ne hd e2.symm
  · refine ⟨32 :: r.reverse, l2, ?_⟩
    rw [hl, List.concat_eq_append, ← List.append_assoc] at e1
    exact List.append_inj_left' e1 (by simp)
theorem lenW_rev (ws : List PySem.Str) : lenW ws.reverse = lenW ws := by
  unfold lenW
  rw [List.map_reverse, List.sum_reverse]
theorem Bd_rev {mxl : Int} {a1 a2 a3 b1 b2 b3 : PySem.Str} {ws : List PySem.Str} (h1 : Ag a1) (h2 : Ag a2) (h3 : Ag a3) (e1 : cs b1 = (cs a1).reverse) (e2 : cs b2 = (cs a2).reverse) (e3 : cs b3 = (cs a3).reverse) (hw : ∀ u ∈ ws, Wd u) (h : Bd mxl a1 a2 a3 ws = true) : Bd mxl b1 b2 b3 ws.reverse = true := by
  rw [Bd_iff h1 h2 h3 hw] at h
  rw [Bd_iff (h1.rev e1) (h2.rev e2) (h3.rev e3) (fun u hu => hw u (List.mem_reverse.mp hu)), lenW_rev]
  rcases h with h | h | h | h
  · exact .inl h
  · exact .inr (.inl (h.rev h1 e1 hw))
  · exact .inr (.inr (.inl (h.rev h2 e2 hw)))
  · exact .inr (.inr (.inr (h.rev h3 e3 hw)))
theorem slc_rev {words : List PySem.Str} {i j : Nat} (hij : i ≤ j) (hj : j ≤ words.length) : slc words.reverse (words.length - j) (words.length - i) = (slc words i j).reverse := by
  unfold slc
  rw [List.take_reverse, List.drop_reverse, List.length_drop]
  congr 1
  rw [show words.length - (words.length - i) = i by omega, show words.length - i - (words.length - j) = j - i by omega]
  exact List.drop_take.symm
theorem back_len {mxl : Int} {a1 a2 a3 b1 b2 b3 : PySem.Str} {words : List PySem.Str} (h1 : Ag a1) (h2 : Ag a2) (h3 : Ag a3) (e1 : cs b1 = (cs a1).reverse) (e2 : cs b2 = (cs a2).reverse) (e3 : cs b3 = (cs a3).reverse) (hw : ∀ u ∈ words, Wd u) (hn : 1 ≤ words.length) :
    (rowsF mxl b1 b2 b3 words.reverse).length = (rowsF mxl a1 a2 a3 words).length := by
  obtain ⟨t, ht⟩ : ∃ t, words.length = t + 1 := ⟨words.length - 1, by omega⟩
  have hw' : ∀ u ∈ words.reverse, Wd u := fun u hu => hw u (List.mem_reverse.mp hu)
  have ht' : words.reverse.length = t + 1 := by rw [List.length_reverse]; exact ht
  rw [rows_len h1 h2 h3 hw ht, rows_len (h1.rev e1) (h2.rev e2) (h3.rev e3) hw' ht']
  congr 1
  have back : ∀ {x y : PySem.Str}, cs y = (cs x).reverse → cs x = (cs y).reverse := fun e => by rw [e, List.reverse_reverse]
  refine (PL.Tab.rev (mT_tab (bdW mxl a1 a2 a3 words) t) (mT_tab (bdW mxl b1 b2 b3 words.reverse) t) ?_ ?_).symm
  · intro i j hij hj hb
    show Bd _ _ _ _ _ = true
    rw [show t + 1 = words.length from ht.symm, slc_rev hij (by omega)]
    exact Bd_rev h1 h2 h3 e1 e2 e3 (fun u hu => slc_wd hw hu) hb
  · intro i j hij hj hb
    show Bd _ _ _ _ _ = true
    have := Bd_rev (h1.rev e1) (h2.rev e2) (h3.rev e3) (back e1) (back e2) (back e3) (fun u hu => slc_wd hw' hu) hb
    have e := slc_rev (words := words.reverse) hij (by omega)
    rw [List.reverse_reverse, ht'] at e
    rw [e]
    exact this
end Mine
end
section
open PySem PySem.W PyProof.Rows PySem.Calls PySem.Spec
set_option maxRecDepth 100000
namespace Mine
theorem news_kept {h₀ h h' : Heap} {L : Addr} {news : List (Addr × Obj)} (N : News h₀ L h news) (kb : KB [] h h') : News h₀ L h' news := fun p hp => ⟨kb _ _ (by simp) (N p hp).1, (N p hp).2⟩
theorem word_K (w : World) {p : Program} {loose : List PySem.Str} {mean : ExcName → Option Value} {mg mb : PySem.Str → Option Value} (dp un : Nat) (gd : Option (List Code)) (cn : PySem.Str) (cs : Scope) (a : Addr) (ccd : Value) (cl : List (PySem.Str × Addr)) (outer : List Env) (A₀ : Around) (base h₀ : Heap) (L : Addr) (m : PySem.Str → Option Value) (s : Shared) (Q E : Value → Shared → Prop) (n : Int) (tn : Tok) (news : List (Addr × Obj))
    (B : Below A₀ base outer h₀) (F : Fr h₀ L s.heap m) (X : (Mine.hd.heap_1 w.params).In h₀) (T : Top p loose mean mg mb h₀) (hk : cs.kind = .function) (hd : dp + 4 < recursionLimit) (hu : un + 60 < cLine)
    (N : News h₀ L s.heap news)
    (h : ∀ y t h' tk', Wd y → Fr h₀ L h' m → News h₀ L h' news → Q (.str y t) { s with heap := h', toks := tk' })
    : wpAny (model PySem.Challenge.rw_wn0105_01.row.prog w) (ktrTop dp un gd cn cs L a ccd cl outer) (call (.ref 245) [.int n tn]) Q E s :=
  word_ok w dp un gd cn cs a ccd cl outer A₀ base h₀ L m s Q E n tn B F X T hk hd hu fun y t h' tk' hy F' kb => h y t h' tk' hy F' (news_kept N kb)
theorem agent_K (w : World) {p : Program} {loose : List PySem.Str} {mean : ExcName → Option Value} {mg mb : PySem.Str → Option Value} (dp un : Nat) (gd : Option (List Code)) (cn : PySem.Str) (cs : Scope) (a : Addr) (ccd : Value) (cl : List (PySem.Str × Addr)) (outer : List Env) (A₀ : Around) (base h₀ : Heap) (L : Addr) (m : PySem.Str → Option Value) (s : Shared) (Q E : Value → Shared → Prop) (n : Int) (tn : Tok) (news : List (Addr × Obj))
    (B : Below A₀ base outer h₀) (F : Fr h₀ L s.heap m) (X : (Mine.hd.heap_1 w.params).In h₀) (T : Top p loose mean mg mb h₀) (hk : cs.kind = .function) (hd : dp + 4 < recursionLimit) (hu : un + 60 < cLine)
    (N : News h₀ L s.heap news)
    (h : ∀ y t h' tk', Ag y → Fr h₀ L h' m → News h₀ L h' news → Q (.str y t) { s with heap := h', toks := tk' })
    : wpAny (model PySem.Challenge.rw_wn0105_01.row.prog w) (ktrTop dp un gd cn cs L a ccd cl outer) (call (.ref 238) [.int n tn]) Q E s :=
  agent_ok w dp un gd cn cs a ccd cl outer A₀ base h₀ L m s Q E n tn B F X T hk hd hu fun y t h' tk' hy F' kb => h y t h' tk' hy F' (news_kept N kb)
theorem ag_star {a : PySem.Str} (h : Ag a) : (a != Str.ofString "*") = true := by
  have h1 := h.len.1
  cases q : (a != Str.ofString "*") with
  | true => rfl
  | false =>
    have e : a = Str.ofString "*" := by simpa [bne] using q
    rw [e, show (Str.ofString "*").length = 1 by decide +kernel] at h1
    omega
theorem ag_ok {a : PySem.Str} (h : Ag a) : PyData.strOk a = true := by
  unfold PyData.strOk
  rw [← Array.all_toList, List.all_eq_true]
  intro c hc
  have := h.ascii c hc
  simp; omega
theorem folded_K (w : World) {p : Program} {loose : List PySem.Str} {mean : ExcName → Option Value} {mg mb : PySem.Str → Option Value} (dp un : Nat) (gd : Option (List Code)) (cn : PySem.Str) (cs : Scope) (a : Addr) (ccd : Value) (cl : List (PySem.Str × Addr)) (outer : List Env) (A₀ : Around) (base h₀ : Heap) (L : Addr) (m : PySem.Str → Option Value) (s : Shared) (Q E : Value → Shared → Prop) (wl al : Addr) (wvs : Array Value) (nw na : Nat) (a1 a2 a3 : PySem.Str) (t1 t2 t3 tw : Tok) (mxl : Int) (p2 p9 : Array Value) (words : List PySem.Str) (news : List (Addr × Obj)) (news' : Array Value → Array Value → List (Addr × Obj))
    (B : Below A₀ base outer h₀) (F : Fr h₀ L s.heap m) (X : (Mine.hd.heap_1 w.params).In h₀) (T : Top p loose mean mg mb h₀) (hk : cs.kind = .function) (hd : dp + 40 < recursionLimit) (hu : un + 600 < cLine)
    (N : News h₀ L s.heap news) (i1 : (wl, W.listOf wvs nw) ∈ news) (i2 : (al, W.listOf #[.str a1 t1, .str a2 t2, .str a3 t3] na) ∈ news) (i3 : (182, tabObj p2) ∈ news) (i4 : (189, tabObj p9) ∈ news)
    (hwa : NeA wl al) (U : ∀ p2' p9', Upds [(182, tabObj p2), (189, tabObj p9)] [(182, tabObj p2'), (189, tabObj p9')] news (news' p2' p9'))
    (hW : StrsAre wvs.toList words) (hw : ∀ u ∈ words, Wd u) (hn : words.length ≤ 100) (hne0 : words ≠ [])
    (hp2 : psOk pos132 p2) (hp9 : psOk pos135 p9) (g1 : Ag a1) (g2 : Ag a2) (g3 : Ag a3)
    (h : ∀ D rv p2' p9' h' gs tk', StrsAre rv.toList (rowsF mxl a1 a2 a3 words) → Fr h₀ L h' m → News h₀ L h' ((D, W.listOf rv 0) :: news' p2' p9') → psOk pos132 p2' → psOk pos135 p9' → (AllBare s.gens → AllBare gs) → (∀ p ∈ news, p.1 ≠ D) → Q (.ref D) { s with heap := h', gens := gs, toks := tk' })
    : wpAny (model PySem.Challenge.rw_wn0105_01.row.prog w) (ktrTop dp un gd cn cs L a ccd cl outer) (call (.ref 252) [.ref wl, .ref al, .int mxl tw]) Q E s := by
  have N4 := News.four N i1 i2 i3 i4
  have lt : ∀ a b c, (W.listOf a b).cls ≠ (tabObj c).cls := by intro a b c hc; cases hc
  refine folded_ok w dp un gd cn cs a ccd cl outer A₀ base h₀ L m s Q E wl al wvs nw na a1 a2 a3 t1 t2 t3 tw mxl p2 p9 words B F X T hk hd hu N4
    ⟨hwa, ne_obj N i1 i3 (lt _ _ _), ne_obj N i1 i4 (lt _ _ _), ne_obj N i2 i3 (lt _ _ _), ne_obj N i2 i4 (lt _ _ _)⟩ hW hw hn hne0 hp2 hp9 (by have := g1.len.2; omega) (by have := g2.len.2; omega) (by have := g3.len.2; omega) (ag_star g1) (ag_star g2) (ag_star g3)
    (fun v hv => hit3_solo g1 g2 g3 (hw v hv)) fun D rv p2' p9' h' gs tk' hS F' N' q2 q9 hb kb hf => h D rv p2' p9' h' gs tk' hS F' (fun p hp => ?_) q2 q9 hb (ne_fresh N hf)
  rcases List.mem_cons.mp hp with rfl | hp
  · exact N' _ (.head _)
  · refine news_upds N N4 (U p2' p9') kb N' (by simp) ?_ p hp
    intro p hp hn
    simp only [List.mem_cons, List.not_mem_nil, or_false] at hp
    rcases hp with rfl | rfl | rfl | rfl
    · simp
    · simp
    all_goals exact absurd (by simp) hn
theorem told_K (w : World) {p : Program} {loose : List PySem.Str} {mean : ExcName → Option Value} {mg mb : PySem.Str → Option Value} (dp un : Nat) (gd : Option (List Code)) (cn : PySem.Str) (cs : Scope) (a : Addr) (ccd : Value) (cl : List (PySem.Str × Addr)) (outer : List Env) (A₀ : Around) (base h₀ : Heap) (L : Addr) (m : PySem.Str → Option Value) (s : Shared) (Q E : Value → Shared → Prop) (wl al : Addr) (wvs : Array Value) (nw na : Nat) (a1 a2 a3 : PySem.Str) (t1 t2 t3 tw : Tok) (mxl : Int) (words : List PySem.Str) (news : List (Addr × Obj))
    (B : Below A₀ base outer h₀) (F : Fr h₀ L s.heap m) (X : (Mine.hd.heap_1 w.params).In h₀) (T : Top p loose mean mg mb h₀) (hk : cs.kind = .function) (hd : dp + 40 < recursionLimit) (hu : un + 600 < cLine)
    (N : News h₀ L s.heap news) (i1 : (wl, W.listOf wvs nw) ∈ news) (i2 : (al, W.listOf #[.str a1 t1, .str a2 t2, .str a3 t3] na) ∈ news)
    (hwa : NeA wl al) (hW : StrsAre wvs.toList words) (hw : ∀ u ∈ words, Wd u) (hn : words.length ≤ 100) (hne0 : words ≠ [])
    (g1 : Ag a1) (g2 : Ag a2) (g3 : Ag a3)
    (h : ∀ D rv nr h' tk', StrsAre rv.toList (rowsF mxl a1 a2 a3 words) → Fr h₀ L h' m → News h₀ L h' ((D, W.listOf rv nr) :: news) → (∀ p ∈ news, p.1 ≠ D) → Q (.ref D) { s with heap := h', toks := tk' })
    : wpAny (model PySem.Challenge.rw_wn0105_01.row.prog w) (ktrTop dp un gd cn cs L a ccd cl outer) (call (.ref 257) [.ref wl, .ref al, .int mxl tw]) Q E s := by
  have N2 := News.two N i1 i2
  have hn1 : 1 ≤ words.length := by cases words with
    | nil => exact absurd rfl hne0
    | cons a r => simp
  have ha : ∀ x ∈ [a1, a2, a3], Ag x := by
    intro x hx
    simp only [List.mem_cons, List.not_mem_nil, or_false] at hx
    rcases hx with rfl | rfl | rfl
    · exact g1
    · exact g2
    · exact g3
  refine told_ok w dp un gd cn cs a ccd cl outer A₀ base h₀ L m s Q E wl al wvs nw na a1 a2 a3 t1 t2 t3 tw mxl words B F X T hk hd hu N2 hwa (fun x hx => by have := (ha x hx).len.2; omega) (fun x hx => ag_ok (ha x hx)) hW hw hn hn1
    fun D rv nr h' tk' hS F' N' kb hf => h D rv nr h' tk' ?_ F' (fun p hp => ?_) (ne_fresh N hf)
  · obtain ⟨t, ht⟩ : ∃ t, words.length = t + 1 := ⟨words.length - 1, by omega⟩
    rw [rows_eq g1 g2 g3 hw ht]; exact hS
  · rcases List.mem_cons.mp hp with rfl | hp
    · exact N' _ (.head _)
    · refine news_same N N2 kb (fun q hq => N' q (.tail _ hq)) p hp
end Mine
end
section
open PySem PySem.W PyProof.Rows PySem.Calls PySem.Spec
set_option maxRecDepth 100000
namespace Mine
local macro_rules | `(tactic| k_mem) => `(tactic| assumption)
local macro_rules | `(tactic| k_inst) => `(tactic| (refine' Mine.InstAt.ofAcc ?N ?h1 ?h2; (case N => k_asm); (case h1 => k_mem); (case h2 => k_mem)))
local macro_rules | `(tactic| walk_at $s:str) => `(tactic| k_extra $s)
theorem words_C17 : True := by
  k_with_none
  w_top off
  k_with "myenter" => (first | ((refine' Mine.enterR (by k_asm) (by k_asm) (by k_asm) (by k_asm) (by k_asm) (by exact rfl) (by exact rfl) (by assumption) (by k_is) (by k_is) (by ktr_room) (by first | exact BindsTo.of_eq rfl | exact binds_K (by k_in) rfl (by k_is) rfl rfl rfl) (by exact locs rfl) ?_ (by exact rfl) (by exact rfl) (by exact rfl) (by decide); k_whole; intro g' L' h' hG' FG' F' N' B' X' T' l1; (try k_lt l1); (try dsimp only); (try k_lift B'); (try k_fold))) | fail "no")
  k_with "mylen" => (first | (first | omega | (simp only [PySem.Str.length_append, PySem.sizeLine_eq] at *; omega)) | fail "no")
  k_with "getMethod ref" => (first | ((k_here; k_dflt (first | refine' Mine.method_fnL (by k_in) (by k_inst) (by k_is) (by k_is) (by k_is) (by k_is) (by exact Mine.shadow_dict (by k_get)) ?_; k_whole | refine' Mine.method_biL (by k_in) (by k_inst) (by k_is) (by k_is) (by k_is) (by exact PySem.F.type_list_append) (by exact Mine.shadow_dict (by k_get)) ?_; k_whole))) | fail "no")
  k_with "call builtin:list.append" => (first | ((k_here; (with_reducible show wpAny _ _ (call (Value.builtin _) [Value.ref _, _]) _ _ _); k_dflt (refine' Mine.append_accL (by k_asm) (by k_asm) (by k_asm) (by k_upd) (by k_mem) (by k_is) ?_ (by walk_at "mylen"); k_whole); intro h' F' N'; (try k_sweep))) | fail "no")
  k_with "getAttr ref" => (first | ((k_here; k_dflt (refine' Mine.get_ownL' (by k_asm) (by k_asm) (by k_inst) (by k_is) (by k_is) (by k_is) (by k_is) (by k_is) (by k_is) (by k_get) (by k_handed) ?_; k_whole))) | fail "no")
  k_with "mytups" => (first | (first | assumption | exact Mine.TupsAt.keeps (by assumption) (fun b o e _ => Fr.keep (by k_asm) b o e)) | fail "no")
  k_with "eval GeneratorExp" => (first | ((k_here; k_dflt (first | ((with_reducible show wpAny _ _ (eval (Expr.GeneratorExp (Expr.BinOp _ _ _ _) _ _ _) _) _ _ _); refine' Mine.gen_len_K (by k_asm) (by k_asm) (by k_asm) (by k_asm) (by exact rfl) (by exact rfl) (by exact rfl) (by exact rfl) (by exact rfl) (by ktr_room) (by k_mem) (by k_mem) (by (intro ps'; k_upd)) (by assumption) (by walk_at "mytups") (by assumption) ?_) | ((with_reducible show wpAny _ _ (eval (Expr.GeneratorExp (Expr.Call _ _ _ _) _ _ _) _) _ _ _); refine' Mine.gen_join_K (by exact rfl) (by k_asm) (by k_asm) (by k_asm) (by k_asm) (by exact rfl) (by exact rfl) (by exact rfl) (by exact rfl) (by exact rfl) (by ktr_room) (by k_mem) (by k_mem) (by (intro ps'; k_upd)) (by assumption) (by walk_at "mytups") (by assumption) ?_)); intro a' ps' h' gs' tk' lo' F' N' hps' hAB' hlo' hlo2' G'; (try dsimp only at N'))) | fail "no")
  k_with "call builtin:sum" => (first | ((k_here; k_dflt (refine' Mine.sum_len_K (by k_asm) (by k_asm) (by refine Mine.Gen.toks (by assumption) ?_; first | exact Nat.le_succ _ | exact Nat.le_refl _) (by exact (Mine.TupsAt.size (by assumption)).symm) (by assumption) (by assumption) ?_); intro h' gs' tk' t' F' N' hAB' hK')) | fail "no")
  k_with "call builtin:str.join" => (first | ((k_here; (with_reducible show wpAny _ _ (call (Value.builtin _) [Value.str _ _, Value.ref _]) _ _ _); k_dflt (refine' Mine.join_str_K (by k_asm) (by k_asm) (by refine Mine.Gen.toks (by assumption) ?_; first | exact Nat.le_succ _ | exact Nat.le_refl _) (by exact (Mine.TupsAt.size (by assumption)).symm) (by assumption) (by assumption) (by assumption) (by assumption) ?_); intro h' gs' tk' t' F' N' hAB' hK')) | fail "no")
  k_with "ksenter" => (first | ((refine' Mine.ks_codeR (by k_asm) (by k_asm) (by k_asm) (by k_asm) (by k_asm) (by exact rfl) (by exact rfl) (by assumption) (by k_is) (by k_is) (by ktr_room) (by first | exact BindsTo.of_eq rfl | exact binds_K (by k_in) rfl (by k_is) rfl rfl rfl) (by exact locs rfl) ?_ (by decide) (by exact rfl) (by exact rfl) (by exact rfl); intro g' L' h' hG' FG' F' N' B' X' T' l1; (try k_lt l1); (try dsimp only); (try k_lift B'); (try k_fold))) | fail "no")
  k_with "getMethod ref" => (first | ((k_here; k_dflt (refine' Mine.meth_len_K (by k_asm) (by k_asm) (by k_asm) (by k_mem) (by k_inst) (by k_is) (by k_is) (by ks_is) (by decide) (by first | exact Mine.ty_len | exact Mine.ty_pop | exact Mine.ty_init) (by first | exact Or.inl ⟨rfl, rfl⟩ | exact Or.inr ⟨rfl, rfl⟩) (by first | exact Mine.nc_len | exact Mine.nc_pop | exact Mine.nc_init) (by decide +kernel) ?_; intro q' h' F' N' l1; (try k_lt l1)))) | fail "no")
  k_with "callWith ref" => (first | ((k_here; k_dflt (refine' Mine.callWith_B (by k_asm) (by k_mem) (by first | exact Or.inl rfl | exact Or.inr rfl) ?_))) | fail "no")
  k_with "call ref" => (first | ((k_here; k_dflt (first | (refine' Mine.call_len_K (by k_asm) (by k_mem) (by k_mem) ?_; intro t' tk') | (refine' Mine.call_pop_K (by k_asm) (by k_asm) (by k_asm) (by k_mem) (by k_upd) (by k_mem) (by exact rfl) (by rfl) (by k_is) (by k_is) (by walk_at "mylen") ?_; intro h' F' N')))) | fail "no")
  k_with "newsx" => (first | (first | (intro _; exact News.nil) | (intro nx; refine' Mine.News.one nx (by k_mem) (by walk_at "newsx"))) | fail "no")
  k_with "news" => (first | (first | assumption | (refine' Mine.News.one (by assumption) (by k_mem) (by walk_at "newsx")) | (refine News.perm (by assumption) ?_; simp; done) | (refine News.perm (by assumption) ?_; intro p hp; simp only [List.mem_cons, List.not_mem_nil, or_false] at hp ⊢; rcases hp with rfl | hp <;> simp_all)) | fail "no")
  k_with "kb" => (first | (exact Mine.KB.fin (by assumption) (by assumption)) | fail "no")
  trivial
set_option maxHeartbeats 2000000 in
theorem numbers_ok (w : World) {p : Program} {loose : List PySem.Str} {mean : ExcName → Option Value} {mg mb : PySem.Str → Option Value} (dp un : Nat) (gd : Option (List Code)) (cn : PySem.Str) (cs : Scope) (a : Addr) (ccd : Value) (cl : List (PySem.Str × Addr)) (outer : List Env) (A₀ : Around) (base h₀ : Heap) (L : Addr) (m : PySem.Str → Option Value) (s : Shared) (Q E : Value → Shared → Prop) (sl : Addr) (vs : List Value) (ns : List Int)
    (B : Below A₀ base outer h₀) (F : Fr h₀ L s.heap m) (X : (Mine.hd.heap_1 w.params).In h₀) (T : Top p loose mean mg mb h₀) (hk : cs.kind = .function) (hd : dp + 4 < recursionLimit) (hu : un + 60 < cLine)
    (hsl : h₀.IsList sl vs.toArray) (hi : IntsAre vs ns) (hlen : ¬ ((63 : Nat) : Int) < (ns.length : Int))
    (hret : ∀ l' nvs nums nn h' tk', IntsAre nvs nums → nums.length = 11 → Fr h₀ L h' m → News h₀ L h' [(l', W.listOf nvs.toArray nn)] → KB [] s.heap h' → s.heap.get? l' = none → Q (.ref l') { s with heap := h', toks := tk' })
    : wpAny (model PySem.Challenge.rw_wn0105_01.row.prog w) (ktrTop dp un gd cn cs L a ccd cl outer) (call (.ref 231) [.ref sl]) Q E s := by
  have N : News h₀ L s.heap [] := .nil
  revert X; k_fill; intro X
  refine wpAny_call ?_
  (k_with "pyIter ref" => k_state (fun _ numbers => numbers.length = 11) "numbers")
  k_dflt walk_at "myenter"
  have hslg : Heap.IsList _ sl vs.toArray := stays_list (fun b o e => Fr.keep (by assumption : Fr h₀ L _ m) b o e) hsl
  (rename Fr _ _ _ _ => kF')
  replace kF' : Fr _ _ _ (fun y => List.lookup y [(Str.ofString "script", Value.ref sl)]) := kF'
  k_steps
  exact hret _ _ _ _ _ _ (by assumption) (by assumption) (by k_asm) (by walk_at "news") (by walk_at "kb") (Mine.fresh_in (by assumption) (by assumption) (by k_mem) (by k_all))
end Mine
end
section
open PySem PySem.W PyProof.Rows PySem.Calls PySem.Spec
set_option maxRecDepth 100000
namespace Mine
def PEl (P : PySem.Str → Prop) (news : List (Addr × Obj)) (y : Value) (news' : List (Addr × Obj)) : Prop := news' = news ∧ ∃ (x : PySem.Str) (t : Tok), y = .str x t ∧ P x
theorem strs_three {vs : List Value} {ys : List PySem.Str} (h : StrsAre vs ys) (hl : ys.length = 3) : ∃ a1 t1 a2 t2 a3 t3, ys = [a1, a2, a3] ∧ vs = [.str a1 t1, .str a2 t2, .str a3 t3] := by
  cases h with
  | nil => cases hl
  | cons a1 t1 h => cases h with
    | nil => cases hl
    | cons a2 t2 h => cases h with
      | nil => cases hl
      | cons a3 t3 h => cases h with
        | nil => exact ⟨a1, t1, a2, t2, a3, t3, rfl, rfl⟩
        | cons _ _ _ => simp at hl
theorem ints_get {vs : List Value} {ns : List Int} (h : IntsAre vs ns) : ∀ i (hi : i < ns.length), ∃ t, vs[i]? = some (.int ns[i] t) := by
  induction h with
  | nil => intro i hi; exact absurd hi (Nat.not_lt_zero _)
  | cons y t _ ih =>
    intro i hi
    cases i with
    | zero => exact ⟨t, rfl⟩
    | succ i =>
      obtain ⟨t', e⟩ := ih i (by simpa using hi)
      exact ⟨t', by simpa using e⟩
section
variable {prog : Program} {w : World} {A : Around} {h₀ : Heap} {L : Addr} {m : PySem.Str → Option Value} {env : Env} {elt : Expr} {xn : PySem.Str} {scope : Scope} {cl : List (PySem.Str × Addr)} {s : Shared} {S : List (Addr × Obj) → Prop} {news : List (Addr × Obj)}
theorem cr_ex {Fin : List Value → List (Addr × Obj) → Prop} {its : Array Value} {ns : List Int} (P : PySem.Str → Prop) (hi : IntsAre its.toList ns)
    (turn : ∀ n t I oI C oC D m₂ ys h tk (E' : Value → Shared → Prop), LCg.NsObj oC m₂ → m₂ xn = some (.int n t) → Fr h₀ L h m → News h₀ L h ((I, oI) :: (C, oC) :: (D, LCg.lst ys) :: news) → LCg.Off3 I C D news → ((@Ne Nat I C) ∧ (@Ne Nat I D) ∧ (@Ne Nat C D)) →
      wpAny (model prog w) A (eval elt (compEnvC scope cl C env)) (LCg.CompEnd h₀ L m { s with heap := h, toks := tk } I oI C oC D (LCg.lst ys) S (fun y news' => PEl P news y news')) E' { s with heap := h, toks := tk })
    (fin : ∀ ys xs, StrsAre ys xs → xs.length = ns.length → (∀ x ∈ xs, P x) → Fin ys news) : LCg.CompRest prog w A h₀ L m env elt xn scope cl s S (fun i v => its[i]? = some v) Fin its.size 0 [] news := by
  have hsz : its.size = ns.length := by have := hi.length; rwa [Array.length_toList] at this
  have key : ∀ (j i : Nat) (ys : List Value) (xs : List PySem.Str), i + j = its.size → StrsAre ys xs → xs.length = i → (∀ x ∈ xs, P x) → LCg.CompRest prog w A h₀ L m env elt xn scope cl s S (fun i v => its[i]? = some v) Fin j i ys news := by
    intro j
    induction j with
    | zero =>
      intro i ys xs hi' hy hx hp
      exact LCg.CompRest.zero (fin ys xs hy (by omega) hp)
    | succ j ih =>
      intro i ys xs hi' hy hxl hp
      refine LCg.CompRest.succ ?_
      intro v I oI C oC D m₂ h tk E' hv hC hx F N off ne
      have hlt : i < ns.length := by omega
      obtain ⟨t, e⟩ := ints_get hi i hlt
      have hv' : v = .int ns[i] t := by
        have e' : its[i]? = some (.int ns[i] t) := by simpa using e
        rw [e'] at hv; exact (Option.some.inj hv).symm
      rw [hv'] at hx
      refine wpAny_mono (turn ns[i] t I oI C oC D m₂ ys h tk E' hC hx F N off ne) (fun y s₂ hq => ?_) fun _ _ e => e
      obtain ⟨h', tk', nw, e, F', N', off', hS, hn, x', t', hy', hPx⟩ := hq
      rw [hn] at N' off' hS
      refine ⟨h', tk', news, e, F', N', off', hS, ?_⟩
      rw [hy']
      refine ih (i + 1) _ (xs ++ [x']) (by omega) (kct_snoc hy) (by rw [List.length_append, hxl]; rfl) fun z hz => ?_
      rcases List.mem_append.mp hz with hz | hz
      · exact hp z hz
      · rw [List.mem_singleton.mp hz]; exact hPx
  exact key _ 0 [] [] (by omega) .nil rfl (fun _ h => nomatch h)
theorem comp_ex {Fin : Shared → List Value → List (Addr × Obj) → Prop} {ax : Addr} {zs : Array Value} {k : Nat} {ns : List Int} (P : PySem.Str → Prop)
    (hh : A.handled = none) (F : Fr h₀ L s.heap m) (N : News h₀ L s.heap news) (hm : (ax, W.listOf zs k) ∈ news) (hi : IntsAre zs.toList ns) (hz : ns.length ≤ 1000)
    (turn : ∀ G n t I oI C oC D m₂ ys h tk (E' : Value → Shared → Prop), LCg.NsObj oC m₂ → m₂ xn = some (.int n t) → Fr h₀ L h m → News h₀ L h ((I, oI) :: (C, oC) :: (D, LCg.lst ys) :: news) → LCg.Off3 I C D news → ((@Ne Nat I C) ∧ (@Ne Nat I D) ∧ (@Ne Nat C D)) →
      wpAny (model prog w) A (eval elt (compEnvC scope cl C env)) (LCg.CompEnd h₀ L m { s with heap := h, toks := tk } I oI C oC D (LCg.lst ys) (LCg.SrcAt h₀ ax zs) (fun y news' => PEl P news y news')) E' { { s with heap := G } with heap := h, toks := tk })
    (fin : ∀ G ys xs, StrsAre ys xs → xs.length = ns.length → (∀ x ∈ xs, P x) → Fin { s with heap := G } ys news) : LCg.CompSrc prog w A h₀ L m env elt xn scope cl Fin (.ref ax) s :=
  LCg.CompSrc.ledger hh F N hm (by have := hi.length; rw [Array.length_toList] at this; rw [sizeLine_eq]; omega) fun G => cr_ex P hi (fun n t I oI C oC D m₂ ys h tk E' => turn G n t I oI C oC D m₂ ys h tk E') (fin G)
theorem rev_strs {value slice : Expr} {l : Addr} {vs : Array Value} {nl : Nat} {xs : List PySem.Str} {vk : Value} {ops : List Value} {Q : Value → Shared → Prop} (F : Fr h₀ L s.heap m) (N : News h₀ L s.heap news) (hm : (l, W.listOf vs nl) ∈ news) (hS : StrsAre vs.toList xs) (hz : xs.length ≤ 1000) (pk : IsPart vk (some (-1)))
    (h : ∀ D rv h', StrsAre rv.toList xs.reverse → Fr h₀ L h' m → News h₀ L h' ((D, W.listOf rv 0) :: news) → (∀ p ∈ news, p.1 < D) → Q (.ref D) { s with heap := h' })
    (hs : subscripted slice false (.ref l) (.ref s.heap.objs.size) = operate ops (getItem (.ref l) (.ref s.heap.objs.size))) (ht : ∀ r, letTemporaryGo value (.ref l) r = pure ()) {E : Value → Shared → Prop} :
    wpAny (model prog w) A (subscriptTail value slice (.ref l) (.ref s.heap.objs.size)) Q E { s with heap := s.heap.push { cls := .type "slice", data := .fields #[.none, .none, vk] } } := by
  have hlen := strs_len hS
  rw [Array.length_toList] at hlen
  refine krv_lit F N (isList_news N hm) pk rfl (fun D h' F' N' l1 => h D _ h' ?_ F' N' l1) hs ht (by rw [sizeLine_eq]; omega)
  have hr : ∀ {vs xs}, StrsAre vs xs → StrsAre vs.reverse xs.reverse := by
    intro vs xs h
    induction h with
    | nil => exact .nil
    | cons y t _ ih => rw [List.reverse_cons, List.reverse_cons]; exact kct_snoc ih
  exact hr hS
theorem numbers_K {p : Program} {loose : List PySem.Str} {mean : ExcName → Option Value} {mg mb : PySem.Str → Option Value} (dp un : Nat) (gd : Option (List Code)) (cn : PySem.Str) (cs : Scope) (a : Addr) (ccd : Value) (cl : List (PySem.Str × Addr)) (outer : List Env) (A₀ : Around) (base : Heap) (Q E : Value → Shared → Prop)
    (sl : Addr) (vs : List Value) (ns : List Int)
    (B : Below A₀ base outer h₀) (F : Fr h₀ L s.heap m) (X : (Mine.hd.heap_1 w.params).In h₀) (T : Top p loose mean mg mb h₀) (hk : cs.kind = .function) (hd : dp + 4 < recursionLimit) (hu : un + 60 < cLine)
    (N : News h₀ L s.heap news) (hsl : h₀.IsList sl vs.toArray) (hi : IntsAre vs ns) (hlen : ¬ ((63 : Nat) : Int) < (ns.length : Int))
    (h : ∀ l' nvs nums nn h' tk', IntsAre nvs nums → nums.length = 11 → Fr h₀ L h' m → News h₀ L h' ((l', W.listOf nvs.toArray nn) :: news) → (∀ p ∈ news, p.1 ≠ l') → Q (.ref l') { s with heap := h', toks := tk' }) :
    wpAny (model PySem.Challenge.rw_wn0105_01.row.prog w) (ktrTop dp un gd cn cs L a ccd cl outer) (call (.ref 231) [.ref sl]) Q E s := by
  refine numbers_ok w dp un gd cn cs a ccd cl outer A₀ base h₀ L m s Q E sl vs ns B F X T hk hd hu hsl hi hlen fun l' nvs nums nn h' tk' h1 h2 F' N' kb hf => h l' nvs nums nn h' tk' h1 h2 F' (fun p hp => ?_) (ne_fresh N hf)
  rcases List.mem_cons.mp hp with rfl | hp
  · exact N' _ (.head _)
  · exact news_kept N kb p hp
end
end Mine
end
section
open PySem PySem.W PyProof.Rows PySem.Calls PySem.Spec
set_option maxRecDepth 100000
namespace Mine
def revS (x : PySem.Str) : PySem.Str := Txt.sliceBy x none none (-1, 0)
theorem rev_tok (x : PySem.Str) (u : Tok) : Txt.sliceBy x none none (-1, u) = revS x := rfl
theorem getD_rev (l : List Nat) : (List.range l.length).map (fun k => l.getD (l.length - 1 - k) 0) = l.reverse := by
  apply List.ext_getElem
  · simp
  · intro i h1 h2
    have hi : i < l.length := by simpa using h2
    have h3 : l.length - 1 - i < l.length := by omega
    simp [List.getD_eq_getElem?_getD, h3]
theorem rev_cs (x : PySem.Str) : cs (revS x) = (cs x).reverse := by
  have h := PyProof.Rows.step_rev_list x 0
  have e : cs (revS x) = (List.range x.length).map fun k => x.cps.getD (x.length - 1 - k) 0 := h
  rw [e, ← getD_rev (cs x), ← len_cs]
  apply List.map_congr_left
  intro k hk
  have hk' : k < x.length := List.mem_range.mp hk
  have h3 : x.length - 1 - k < x.cps.size := by show _ < x.length; omega
  show x.cps.getD _ 0 = x.cps.toList.getD _ 0
  simp [Array.getD, List.getD_eq_getElem?_getD, h3]
theorem revS_len (x : PySem.Str) : (revS x).length = x.length := by rw [len_cs, rev_cs, List.length_reverse, ← len_cs]
theorem ag_rev {x : PySem.Str} (h : Ag x) : Ag (revS x) := h.rev (rev_cs x)
theorem eqv_strs : ∀ xs : List PySem.Str, PyData.eqvAll (xs.map PyData.str) (xs.map PyData.str) = true
  | [] => rfl
  | a :: r => by simp [PyData.eqvAll, PyData.eqv, eqv_strs r]
theorem rowsF_ok {mxl : Int} {a1 a2 a3 : PySem.Str} {words : List PySem.Str} (hw : ∀ u ∈ words, Wd u) : ∀ r ∈ rowsF mxl a1 a2 a3 words, PyData.strOk r = true := by
  intro r hr
  have key : ∃ us, r = txt us ∧ ∀ u ∈ us, u ∈ words := by
    rcases List.mem_append.mp hr with h | h
    · exact foldS_rows h
    · exact ⟨_, List.mem_singleton.mp h, fun u x => foldS_mem x⟩
  obtain ⟨us, rfl, hu⟩ := key
  unfold PyData.strOk
  rw [← Array.all_toList, List.all_eq_true]
  intro c hc
  have := txt_asciiW (fun u x => hw u (hu u x)) c hc
  simp; omega
theorem rowsF_small {mxl : Int} {a1 a2 a3 : PySem.Str} {words : List PySem.Str} (h1 : Ag a1) (h2 : Ag a2) (h3 : Ag a3) (hw : ∀ u ∈ words, Wd u) (hn : words.length ≤ 100) : (rowsF mxl a1 a2 a3 words).length ≤ 1000 := by
  have h := foldS_len (mxl := mxl) (a1 := a1) (a2 := a2) (a3 := a3) (l := words) fun v hv => hit3_solo h1 h2 h3 (hw v hv)
  unfold rowsF
  rw [List.length_append]
  simp only [List.length_cons, List.length_nil]
  omega
theorem rowsF_pos {mxl : Int} {a1 a2 a3 : PySem.Str} {words : List PySem.Str} : 1 ≤ (rowsF mxl a1 a2 a3 words).length := by
  unfold rowsF; rw [List.length_append]; simp
section
variable {prog : Program} {w : World} {A : Around} {E : Value → Shared → Prop} {s : Shared} {h₀ : Heap} {L : Addr} {news : List (Addr × Obj)}
theorem eq_rows {a b : Addr} {vs us : Array Value} {na nb : Nat} {xs : List PySem.Str} {Q : Value → Shared → Prop} (N : News h₀ L s.heap news) (hm : (a, W.listOf vs na) ∈ news) (hb : (b, W.listOf us nb) ∈ news) (hS : StrsAre vs.toList xs) (hT : StrsAre us.toList xs) (hok : ∀ x ∈ xs, PyData.strOk x = true)
    (hu : A.units + 64 < cLine) (h : Q (.bool true) s) : wpAny (model prog w) A (compareOp .Eq (.ref a) (.ref b)) Q E s := by
  have hR : ∀ {vs : List Value} {xs : List PySem.Str}, StrsAre vs xs → ReadsAll s.heap vs (xs.map PyData.str) [] := by
    intro vs xs h
    induction h with
    | nil => exact .nil
    | cons y t _ ih => exact ReadsAll.cons (Reads.str _ _) ih
  have hC : ∀ xs : List PySem.Str, (∀ x ∈ xs, PyData.strOk x = true) → PyData.canLayAll0 (xs.map PyData.str) = true ∧ PyData.depthAll (xs.map PyData.str) = 0 := by
    intro xs
    induction xs with
    | nil => intro _; exact ⟨rfl, rfl⟩
    | cons a r ih =>
      intro hk
      obtain ⟨h1, h2⟩ := ih fun x hx => hk x (.tail _ hx)
      have h3 := hk a (.head _)
      refine ⟨?_, ?_⟩
      · rw [List.map_cons, PyData.canLayAll0, h1]
        simp [PyData.canLay0, h3]
      · rw [List.map_cons, PyData.depthAll, h2]
        simp [PyData.depth]
  obtain ⟨h1, h2⟩ := hC xs hok
  have hsh : SeqAt.shaped (.list (xs.map PyData.str)) = true := by simp [SeqAt.shaped, PyData.canLay0, PyData.depth, h1, h2]
  refine eq_dataH (reads_list_at (N _ hm).1 rfl rfl (hR hS)) (reads_list_at (N _ hb).1 rfl rfl (hR hT)) hsh hsh hu ?_
  have e : PyData.eqv (.list (xs.map PyData.str)) (.list (xs.map PyData.str)) = true := by
    show PyData.eqvAll _ _ = true
    exact eqv_strs xs
  rw [e]; exact h
theorem len_strs {l : Addr} {vs : Array Value} {nl : Nat} {xs : List PySem.Str} {Q : Value → Shared → Prop} (N : News h₀ L s.heap news) (hm : (l, W.listOf vs nl) ∈ news) (hS : StrsAre vs.toList xs) (hz : xs.length ≤ 1000)
    (h : ∀ t k, Q (.int (xs.length : Int) t) { s with toks := k }) : wpAny (model prog w) A (call (.builtin "len") [.ref l]) Q E s := by
  have hl := isList_news N hm
  have e : vs.size = xs.length := by have := strs_len hS; rwa [Array.length_toList] at this
  exact len_list hl (by rw [e]; omega) (by rw [e]; exact h _ _)
theorem eq_int_true {a b : Int} {t u : Tok} {Q : Value → Shared → Prop} (e : a = b) (h : Q (.bool true) s) : wpAny (model prog w) A (compareOp .Eq (.int a t) (.int b u)) Q E s := by
  refine eq_int ?_
  rw [beq_iff_eq.mpr e]; exact h
end
theorem tab_cell {tabs : List (Addr × Addr)} {h h' : Heap} (hT : TabsAt tabs h) (hgr : GrownAll tabs h') {b : Addr} (hb : b ∈ tabs.map (·.2)) : isCodeTable h b ∧ h.get? b = some (tabObj #[]) ∧ ∃ ps, h'.get? b = some (tabObj ps) := by
  rcases List.mem_map.mp hb with ⟨q, hq, e⟩
  have t := hT q hq
  subst e
  exact ⟨(t.1.tab t.2).isCodeTable, t.2, hgr.get q hq⟩
/-- the end of a call that also made generators: what stands beside the tables stands, the tables have grown -/
theorem good_ghost {s₁ s' : Shared} {r : Result} {cw : ClaimW} {cl : PySem.Str → Option Addr} {mean : ExcName → Option Value} {args : List WData} {tabs : List (Addr × Addr)} (hT : TabsAt tabs s₁.heap) (hr : ∀ a x, cw.raises a x = false)
    (g : GoodW cw cl mean args { s₁ with heap := ghostOf s₁.heap tabs } r { s' with gens := #[] }) (hgr : GrownAll tabs s'.heap) (hg : AllBare s'.gens) : GoodWG cw cl mean args s₁ r s' := by
  have beside : ∀ b o, b ∉ tabs.map (·.2) → s₁.heap.get? b = some o → s'.heap.get? b = some o := fun b o hb e => g.2.1 b o (ghost_ne e hb)
  refine ⟨?_, ⟨?_, ?_⟩, g.2.2.1, hg⟩
  · rcases g.1 with ⟨v, d, as, a1, a2, a3, a4, a5⟩ | bad
    · refine Or.inl ⟨v, d, as, a1, a2, a3, a4, fun hu => ⟨(a5 hu).1, ?_⟩⟩
      intro a ha
      by_cases hb : a ∈ tabs.map (·.2)
      · obtain ⟨_, _, ps, hP⟩ := tab_cell hT hgr hb
        exact absurd ha (readsW_apart hP rfl a3)
      · have n := (a5 hu).2 a ha
        cases q : s₁.heap.get? a with
        | none => rfl
        | some o => exact absurd ((ghost_ne q hb).symm.trans n) (by simp)
    · obtain ⟨_, _, x, _, _, _, a4, _⟩ := bad
      rw [hr] at a4; exact Bool.noConfusion a4
  · intro b o e
    by_cases hb : b ∈ tabs.map (·.2)
    · obtain ⟨ht, e0, ps, hP⟩ := tab_cell hT hgr hb
      cases Option.some.inj (e.symm.trans e0)
      refine Or.inr (Or.inl ⟨ht, rfl, #[], ps, rfl, ?_⟩)
      rw [Array.empty_append]; exact hP
    · exact Or.inl (beside b o hb e)
  · intro b o e
    by_cases hb : b ∈ tabs.map (·.2)
    · obtain ⟨_, _, ps, hP⟩ := tab_cell hT hgr hb
      exact ⟨_, hP⟩
    · exact ⟨o, beside b o hb e⟩
theorem code_post {M : Model} {A : Around} {cd : Code} {s s₁ : Shared} {cw : ClaimW} {cl : PySem.Str → Option Addr} {mean : ExcName → Option Value} {args : List WData} {tabs : List (Addr × Addr)} (hT : TabsAt tabs s₁.heap) (hr : ∀ a x, cw.raises a x = false)
    (h : codeAny M A cd (fun r s' => GoodW cw cl mean args { s₁ with heap := ghostOf s₁.heap tabs } r { s' with gens := #[] } ∧ GrownAll tabs s'.heap ∧ AllBare s'.gens) s) : codeAny M A cd (GoodWG cw cl mean args s₁) s :=
  codeAny_mono h fun _ _ x => good_ghost hT hr x.1 x.2.1 x.2.2
end Mine
end
section
open PySem PySem.W PyProof.Rows PySem.Calls PySem.Spec
set_option maxRecDepth 100000
namespace Mine
local macro_rules | `(tactic| k_mem) => `(tactic| assumption)
local macro_rules | `(tactic| k_inst) => `(tactic| (refine' Mine.InstAt.ofAcc ?N ?h1 ?h2; (case N => k_asm); (case h1 => k_mem); (case h2 => k_mem)))
local macro_rules | `(tactic| k_ne) => `(tactic| (refine neN ?_; (try dsimp only); first | exact Mine.NeA.ne (by with_reducible assumption) | exact Mine.NeA.ne' (by with_reducible assumption) | omega))
local macro_rules | `(tactic| walk_at $s:str) => `(tactic| k_extra $s)
theorem words_C18 : True := by
  k_with_none
  w_top off
  k_with "myenter" => (first | ((refine' Mine.enterR (by k_asm) (by k_asm) (by k_asm) (by k_asm) (by k_asm) (by exact rfl) (by exact rfl) (by assumption) (by k_is) (by k_is) (by ktr_room) (by first | exact BindsTo.of_eq rfl | exact binds_K (by k_in) rfl (by k_is) rfl rfl rfl) (by exact locs rfl) ?_ (by exact rfl) (by exact rfl) (by exact rfl) (by decide); k_whole; intro g' L' h' hG' FG' F' N' B' X' T' l1; (try k_lt l1); (try dsimp only); (try k_lift B'); (try k_fold))) | fail "no")
  k_with "mylen" => (first | (first | omega | (simp only [PySem.Str.length_append, PySem.sizeLine_eq] at *; omega)) | fail "no")
  k_with "getMethod ref" => (first | ((k_here; k_dflt (first | refine' Mine.method_fnL (by k_in) (by k_inst) (by k_is) (by k_is) (by k_is) (by k_is) (by exact Mine.shadow_dict (by k_get)) ?_; k_whole | refine' Mine.method_biL (by k_in) (by k_inst) (by k_is) (by k_is) (by k_is) (by exact PySem.F.type_list_append) (by exact Mine.shadow_dict (by k_get)) ?_; k_whole))) | fail "no")
  k_with "call builtin:list.append" => (first | ((k_here; (with_reducible show wpAny _ _ (call (Value.builtin _) [Value.ref _, _]) _ _ _); k_dflt (refine' Mine.append_accL (by k_asm) (by k_asm) (by k_asm) (by k_upd) (by k_mem) (by k_is) ?_ (by walk_at "mylen"); k_whole); intro h' F' N'; (try k_sweep))) | fail "no")
  k_with "getAttr ref" => (first | ((k_here; k_dflt (refine' Mine.get_ownL' (by k_asm) (by k_asm) (by k_inst) (by k_is) (by k_is) (by k_is) (by k_is) (by k_is) (by k_is) (by k_get) (by k_handed) ?_; k_whole))) | fail "no")
  k_with "mytups" => (first | (first | assumption | exact Mine.TupsAt.keeps (by assumption) (fun b o e _ => Fr.keep (by k_asm) b o e)) | fail "no")
  k_with "eval GeneratorExp" => (first | ((k_here; k_dflt (first | ((with_reducible show wpAny _ _ (eval (Expr.GeneratorExp (Expr.BinOp _ _ _ _) _ _ _) _) _ _ _); refine' Mine.gen_len_K (by k_asm) (by k_asm) (by k_asm) (by k_asm) (by exact rfl) (by exact rfl) (by exact rfl) (by exact rfl) (by exact rfl) (by ktr_room) (by k_mem) (by k_mem) (by (intro ps'; k_upd)) (by assumption) (by walk_at "mytups") (by assumption) ?_) | ((with_reducible show wpAny _ _ (eval (Expr.GeneratorExp (Expr.Call _ _ _ _) _ _ _) _) _ _ _); refine' Mine.gen_join_K (by exact rfl) (by k_asm) (by k_asm) (by k_asm) (by k_asm) (by exact rfl) (by exact rfl) (by exact rfl) (by exact rfl) (by exact rfl) (by ktr_room) (by k_mem) (by k_mem) (by (intro ps'; k_upd)) (by assumption) (by walk_at "mytups") (by assumption) ?_)); intro a' ps' h' gs' tk' lo' F' N' hps' hAB' hlo' hlo2' G'; (try dsimp only at N'))) | fail "no")
  k_with "call builtin:sum" => (first | ((k_here; k_dflt (refine' Mine.sum_len_K (by k_asm) (by k_asm) (by refine Mine.Gen.toks (by assumption) ?_; first | exact Nat.le_succ _ | exact Nat.le_refl _) (by exact (Mine.TupsAt.size (by assumption)).symm) (by assumption) (by assumption) ?_); intro h' gs' tk' t' F' N' hAB' hK')) | fail "no")
  k_with "call builtin:str.join" => (first | ((k_here; (with_reducible show wpAny _ _ (call (Value.builtin _) [Value.str _ _, Value.ref _]) _ _ _); k_dflt (refine' Mine.join_str_K (by k_asm) (by k_asm) (by refine Mine.Gen.toks (by assumption) ?_; first | exact Nat.le_succ _ | exact Nat.le_refl _) (by exact (Mine.TupsAt.size (by assumption)).symm) (by assumption) (by assumption) (by assumption) (by assumption) ?_); intro h' gs' tk' t' F' N' hAB' hK')) | fail "no")
  k_with "ksenter" => (first | ((refine' Mine.ks_codeR (by k_asm) (by k_asm) (by k_asm) (by k_asm) (by k_asm) (by exact rfl) (by exact rfl) (by assumption) (by k_is) (by k_is) (by ktr_room) (by first | exact BindsTo.of_eq rfl | exact binds_K (by k_in) rfl (by k_is) rfl rfl rfl) (by exact locs rfl) ?_ (by decide) (by exact rfl) (by exact rfl) (by exact rfl); intro g' L' h' hG' FG' F' N' B' X' T' l1; (try k_lt l1); (try dsimp only); (try k_lift B'); (try k_fold))) | fail "no")
  k_with "getMethod ref" => (first | ((k_here; k_dflt (refine' Mine.meth_len_K (by k_asm) (by k_asm) (by k_asm) (by k_mem) (by k_inst) (by k_is) (by k_is) (by ks_is) (by decide) (by first | exact Mine.ty_len | exact Mine.ty_pop | exact Mine.ty_init) (by first | exact Or.inl ⟨rfl, rfl⟩ | exact Or.inr ⟨rfl, rfl⟩) (by first | exact Mine.nc_len | exact Mine.nc_pop | exact Mine.nc_init) (by decide +kernel) ?_; intro q' h' F' N' l1; (try k_lt l1)))) | fail "no")
  k_with "callWith ref" => (first | ((k_here; k_dflt (refine' Mine.callWith_B (by k_asm) (by k_mem) (by first | exact Or.inl rfl | exact Or.inr rfl) ?_))) | fail "no")
  k_with "call ref" => (first | ((k_here; k_dflt (first | (refine' Mine.call_len_K (by k_asm) (by k_mem) (by k_mem) ?_; intro t' tk') | (refine' Mine.call_pop_K (by k_asm) (by k_asm) (by k_asm) (by k_mem) (by k_upd) (by k_mem) (by exact rfl) (by rfl) (by k_is) (by k_is) (by walk_at "mylen") ?_; intro h' F' N')))) | fail "no")
  k_with "newsx" => (first | (first | (intro _; exact News.nil) | (intro nx; refine' Mine.News.one nx (by k_mem) (by walk_at "newsx"))) | fail "no")
  k_with "news" => (first | (first | assumption | (refine' Mine.News.one (by assumption) (by k_mem) (by walk_at "newsx")) | (refine News.perm (by assumption) ?_; simp; done) | (refine News.perm (by assumption) ?_; intro p hp; simp only [List.mem_cons, List.not_mem_nil, or_false] at hp ⊢; rcases hp with rfl | hp <;> simp_all)) | fail "no")
  k_with "kb" => (first | (exact Mine.KB.fin (by assumption) (by assumption)) | fail "no")
  k_with "splitne" => (first | ((repeat ((with_reducible rename Mine.NeA _ _ ∧ _ => kc'); (first | (refine Mine.sp16 kc' ?_; intro _ _ _ _ _ _ _ _ _ _ _ _ _ _ _ _ _) | (refine Mine.sp8 kc' ?_; intro _ _ _ _ _ _ _ _ _) | (refine Mine.sp4 kc' ?_; intro _ _ _ _ _) | (refine Mine.sp2 kc' ?_; intro _ _ _) | (refine Mine.sp1 kc' ?_; intro _ _)); clear kc'))) | fail "no")
  k_with "upds" => (first | (first | exact Mine.Upds.nil | (refine' Mine.Upds.cons (by k_upd) (by walk_at "upds"))) | fail "no")
  k_with "mylens" => (first | (assumption) | fail "no")
  k_with "call ref" => (first | ((k_here; k_dflt ((first | with_reducible show wpAny _ _ (call (Value.ref 217) _) _ _ _ | with_reducible show wpAny _ _ (call (Value.ref (nat_lit 217)) _) _ _ _); refine' Mine.part_count_K _ _ _ _ _ _ _ _ _ _ _ _ _ _ _ _ _ _ _ _ _ _ _ _ _ _ _ (by k_asm) (by k_asm) (by k_asm) (by k_asm) (by first | assumption | exact rfl) (by (dsimp only [ktrTop, Around.deeper]; omega)) (by (dsimp only [ktrTop, Around.deeper]; omega)) (by k_asm) (by k_mem) (by k_mem) ?_); intro h' tk' t' F' N')) | fail "no")
  k_with "call ref" => (first | ((k_here; k_dflt ((first | with_reducible show wpAny _ _ (call (Value.ref 187) _) _ _ _ | with_reducible show wpAny _ _ (call (Value.ref (nat_lit 187)) _) _ _ _); refine' Mine.len_K _ _ _ _ _ _ _ _ _ _ _ _ _ _ _ _ _ _ _ _ _ _ _ _ _ _ _ _ _ _ (by k_asm) (by k_asm) (by k_asm) (by k_asm) (by first | assumption | exact rfl) (by (dsimp only [ktrTop, Around.deeper]; omega)) (by (dsimp only [ktrTop, Around.deeper]; omega)) (by k_asm) (by k_mem) (by k_mem) (by (intro ps'; walk_at "upds")) (by assumption) (by walk_at "mytups") (by walk_at "mylens") (by walk_at "mylen") ?_); intro ps' h' gs' tk' t' F' N' hps' hAB' hlb'; (try dsimp only at N'); (try (refine Mine.len_back (by assumption) ?_)))) | fail "no")
  k_with "call ref" => (first | ((k_here; k_dflt ((first | with_reducible show wpAny _ _ (call (Value.ref 194) _) _ _ _ | with_reducible show wpAny _ _ (call (Value.ref (nat_lit 194)) _) _ _ _); refine' Mine.str_K _ _ _ _ _ _ _ _ _ _ _ _ _ _ _ _ _ _ _ _ _ _ _ _ _ _ _ _ _ _ (by k_asm) (by k_asm) (by k_asm) (by k_asm) (by first | assumption | exact rfl) (by (dsimp only [ktrTop, Around.deeper]; omega)) (by (dsimp only [ktrTop, Around.deeper]; omega)) (by k_asm) (by k_mem) (by k_mem) (by (intro ps'; walk_at "upds")) (by assumption) (by walk_at "mytups") (by walk_at "mylens") (by walk_at "mylen") ?_); intro ps' h' gs' tk' t' F' N' hps' hAB' hTk'; (try dsimp only at N'); (try dsimp only [W.StrBack]))) | fail "no")
  k_with "call ref" => (first | ((k_here; k_dflt ((first | with_reducible show wpAny _ _ (call (Value.ref 164) _) _ _ _ | with_reducible show wpAny _ _ (call (Value.ref (nat_lit 164)) _) _ _ _); refine' Mine.push_K _ _ _ _ _ _ _ _ _ _ _ _ _ _ _ _ _ _ _ _ _ _ _ _ _ _ _ _ _ _ _ _ (by k_asm) (by k_asm) (by k_asm) (by k_asm) (by first | assumption | exact rfl) (by (dsimp only [ktrTop, Around.deeper]; omega)) (by (dsimp only [ktrTop, Around.deeper]; omega)) (by k_asm) (by k_mem) (by (intro tp'; walk_at "upds")) (by walk_at "mylen") ?_); intro tp' h' tk' F' N' hne'; (try dsimp only at N'); (replace hne' := Mine.allNe_of hne'; dsimp only [Mine.AllNe] at hne'; walk_at "splitne"))) | fail "no")
  k_with "subscriptTail Name Slice ref ref" => (first | ((k_here; (with_reducible show wpAny _ _ (subscriptTail _ (PySem.Expr.Slice _ _ none _) (Value.ref _) (Value.ref _)) _ _ _); k_dflt (refine' Mine.slice_K (by k_asm) (by k_asm) (by k_asm) (by k_mem) (by k_mem) (by k_is) (by k_is) (by k_is) (by kmk_part) (by kmk_part) (by walk_at "mylen") (by first | exact Mine.pick_from (by assumption) | exact rfl) ?_ (by with_unfolding_all rfl) (by kmk_pure)); intro D' h' F' N' l1; (try k_lt l1))) | fail "no")
  k_with "setItem ref ref" => (first | ((k_here; k_dflt (refine' Mine.setitem_K (by k_asm) (by k_asm) (by k_asm) (by kmk_list) (by (intro n'; k_upd)) (by k_mem) (by k_is) (by k_is) (by k_is) (by kmk_part) (by kmk_part) (by walk_at "mylen") (by first | walk_at "mylen" | (simp; done)) (by first | exact Mine.set_from (by assumption) | exact Mine.set_all | exact rfl) ?_); intro n' h' F' N'; (try dsimp only at N'))) | fail "no")
  k_with "setAttr ref" => (first | ((k_here; k_dflt (refine' Mine.set_dictL (by k_asm) (by k_asm) (by k_asm) (by k_inst) (by exact rfl) (by k_is) (by exact Mine.mro220 _) (by k_is) (by k_is) (by k_get) (by k_put) (by k_upd) (by exact Nat.le_of_ble_eq_true rfl) ?_; k_whole; intro h' F' N'; (try k_sweep)))) | fail "no")
  k_with "wpAt" => (first | (((with_reducible show _root_.PySem.wpAt _ _ _ (execs (_ :: _) _) _ _ _); refine ks_wpAt_execs_cons ?_)) | fail "no")
  k_with "wpAt" => (first | ((ks_step "eval Call"; k_dflt (refine ks_wpAt_MethodCall ?_))) | fail "no")
  k_with "truthy ref" => (first | ((k_here; k_dflt (refine' Mine.truthy_lenL (by k_in) (by k_inst) (by k_is) (by k_is) (by k_is) ?_; k_whole))) | fail "no")
  k_with "Exists" => (first | ((refine ⟨_, _, rfl, ?_⟩)) | fail "no")
  k_with "units" => (first | (first | k_units | (dsimp only [ktrTop, Around.deeper, Around.in1]; omega) | (simp only [ktrTop, Around.deeper, Around.in1, Around.under]; omega)) | fail "no")
  k_with "call type:str" => (first | ((k_here; (with_reducible show wpAny _ _ (call (Value.type "str") [Value.ref _]) _ _ _); k_dflt (refine' kso_call (by walk_at "units") (by k_in) (by k_inst) (by k_is) (by k_is) ?_; k_whole))) | fail "no")
  k_with "lunits" => (first | (first | ktr_units | ((try simp only [units_in1, units_deeper, Around.mark_units, units_caller]); (try simp only [cLine]); omega) | (simp only [ktrTop, Around.deeper, Around.in1, Around.under]; decide)) | fail "no")
  k_with "call ref" => (first | ((k_here; k_dflt ((first | with_reducible show wpAny _ _ (call (Value.ref 231) _) _ _ _ | with_reducible show wpAny _ _ (call (Value.ref (nat_lit 231)) _) _ _ _); refine' Mine.numbers_K _ _ _ _ _ _ _ _ _ _ _ _ _ _ _ _  (by k_asm) (by k_asm) (by k_asm) (by k_asm) (by first | assumption | exact rfl) (by ktr_room) (by walk_at "lunits") (by k_asm) (by assumption) (by assumption) (by assumption) ?_); intro l' nvs' nums' nn' h' tk' hi' hz' F' N' f1; (try dsimp only at N'); (replace f1 := Mine.allNe_of f1; dsimp only [Mine.AllNe] at f1; walk_at "splitne"))) | fail "no")
  k_with "call ref" => (first | ((k_here; k_dflt ((first | with_reducible show wpAny _ _ (call (Value.ref 245) _) _ _ _ | with_reducible show wpAny _ _ (call (Value.ref (nat_lit 245)) _) _ _ _); refine' Mine.word_K _ _ _ _ _ _ _ _ _ _ _ _ _ _ _ _ _ _ _ _ _  (by k_asm) (by k_asm) (by k_asm) (by k_asm) (by first | assumption | exact rfl) (by ktr_room) (by walk_at "lunits") (by k_asm) ?_); intro y' t' h' tk' hy' F' N'; (try dsimp only at N'))) | fail "no")
  k_with "call ref" => (first | ((k_here; k_dflt ((first | with_reducible show wpAny _ _ (call (Value.ref 238) _) _ _ _ | with_reducible show wpAny _ _ (call (Value.ref (nat_lit 238)) _) _ _ _); refine' Mine.agent_K _ _ _ _ _ _ _ _ _ _ _ _ _ _ _ _ _ _ _ _ _  (by k_asm) (by k_asm) (by k_asm) (by k_asm) (by first | assumption | exact rfl) (by ktr_room) (by walk_at "lunits") (by k_asm) ?_); intro y' t' h' tk' hy' F' N'; (try dsimp only at N'))) | fail "no")
  k_with "call ref" => (first | ((k_here; k_dflt ((first | with_reducible show wpAny _ _ (call (Value.ref 252) _) _ _ _ | with_reducible show wpAny _ _ (call (Value.ref (nat_lit 252)) _) _ _ _); refine' Mine.folded_K _ _ _ _ _ _ _ _ _ _ _ _ _ _ _ _ _ _ _ _ _ _ _ _ _ _ _ _ _ _ _ _ _ _ _ _  (by k_asm) (by k_asm) (by k_asm) (by k_asm) (by first | assumption | exact rfl) (by ktr_room) (by walk_at "lunits") (by k_asm) (by k_mem) (by k_mem) (by k_mem) (by k_mem) (by walk_at "nea") (by (intro p2' p9'; walk_at "upds")) (by assumption) (by assumption) (by walk_at "wlen") (by assumption) (by walk_at "psok") (by walk_at "psok") (by assumption) (by assumption) (by assumption) ?_); intro D' rv' p2' p9' h' gs' tk' hS' F' N' hp2' hp9' hAB' f1; (try dsimp only at N'); (replace f1 := Mine.allNe_of f1; dsimp only [Mine.AllNe] at f1; walk_at "splitne"))) | fail "no")
  k_with "call ref" => (first | ((k_here; k_dflt ((first | with_reducible show wpAny _ _ (call (Value.ref 257) _) _ _ _ | with_reducible show wpAny _ _ (call (Value.ref (nat_lit 257)) _) _ _ _); refine' Mine.told_K _ _ _ _ _ _ _ _ _ _ _ _ _ _ _ _ _ _ _ _ _ _ _ _ _ _ _ _ _ _ _ _ _  (by k_asm) (by k_asm) (by k_asm) (by k_asm) (by first | assumption | exact rfl) (by ktr_room) (by walk_at "lunits") (by k_asm) (by k_mem) (by k_mem) (by walk_at "nea") (by assumption) (by assumption) (by walk_at "wlen") (by assumption) (by assumption) (by assumption) (by assumption) ?_); intro D' rv' nr' h' tk' hS' F' N' f1; (try dsimp only at N'); (replace f1 := Mine.allNe_of f1; dsimp only [Mine.AllNe] at f1; walk_at "splitne"))) | fail "no")
  k_with "nea" => (first | (first | with_reducible assumption | exact Mine.NeA.ne' (by with_reducible assumption) | (show @Ne Nat _ _; omega)) | fail "no")
  k_with "wlen" => (first | (first | assumption | omega) | fail "no")
  k_with "psok" => (first | (first | assumption | exact Or.inl rfl) | fail "no")
  k_with "CompSrc" => (first | ((refine Mine.Hold.get ?_)) | fail "no")
  k_with "offs" => (first | (((rename LCg.Off3 _ _ _ _ => kO); (rename ((@Ne Nat _ _) ∧ (@Ne Nat _ _) ∧ (@Ne Nat _ _)) => kn); (replace kn := Mine.ne3A kn); (replace kO := Mine.off3A kO); dsimp only [Mine.Off3A] at kO; walk_at "splitne")) | fail "no")
  k_with "FinA" => (first | (((unfold LCg.FinA); intro D' h' tk' F' N' o1'; (replace o1' := Mine.off1A o1'); (dsimp only [Mine.Off1A] at o1'); walk_at "splitne"; (try dsimp only))) | fail "no")
  k_with "FinE" => (first | (((unfold LCg.FinE); intro D' h' tk' F' N' o1'; (replace o1' := Mine.off1A o1'); (dsimp only [Mine.Off1A] at o1'); walk_at "splitne"; (try dsimp only))) | fail "no")
  k_with "PEl" => (first | (exact ⟨rfl, _, _, rfl, by assumption⟩) | fail "no")
  k_with "eval ListComp" => (first | ((k_here; (with_reducible show wpAny _ _ (eval (Expr.ListComp _ [⟨_, _, [], _⟩] _ _) _) _ _ _); k_dflt (refine LCg.ListComp_U (F₀ := by k_asm) (by with_unfolding_all rfl) (by decide) (by rfl) (by decide) (by rfl) ?_))) | fail "no")
  k_with "exec Assign cons ListComp" => (first | ((k_here; k_dflt (refine LCg.Assign_ListComp_U (F₀ := by k_asm) (by rfl) (by with_unfolding_all rfl) (by with_unfolding_all rfl) (by decide) (by rfl) (by decide) (by rfl) (by rfl) (by rfl) ?_))) | fail "no")
  k_with "subscriptTail Name Slice ref ref" => (first | ((k_here; (with_reducible show wpAny _ _ (subscriptTail _ (PySem.Expr.Slice none none (some _) _) (Value.ref _) (Value.ref _)) _ _ _); refine Mine.Hold.get ?_)) | fail "no")
  k_with "compareOp Eq ref ref" => (first | ((k_here; (with_reducible show wpAny _ _ (compareOp _ (Value.ref _) (Value.ref _)) _ _ _); k_dflt (refine' Mine.eq_rows (by k_asm) (by k_mem) (by k_mem) (by assumption) (by assumption) (by exact Mine.rowsF_ok (by assumption)) (by walk_at "lunits") ?_))) | fail "no")
  k_with "call builtin:len" => (first | ((k_here; (with_reducible show wpAny _ _ (call (Value.builtin "len") [Value.ref _]) _ _ _); k_dflt (refine' Mine.len_strs (by k_asm) (by k_mem) (by assumption) (by exact Mine.rowsF_small (by assumption) (by assumption) (by assumption) (by assumption) (by first | assumption | omega)) ?_); intro _ _)) | fail "no")
  k_with "compareOp Eq int int" => (first | ((k_here; k_dflt (refine' Mine.eq_int_true (by exact congrArg (fun z : Nat => (z : Int)) (Mine.back_len (by assumption) (by assumption) (by assumption) (by assumption) (by assumption) (by assumption) (by assumption) (by omega))) ?_))) | fail "no")
  trivial
set_option maxHeartbeats 8000000 in
theorem Fin : PySem.Challenge.rw_wn0105_01.Holds := by
  w_on
  refine Mine.hd ?_
  w_strict (
    k_fill
    intro w s₀ s₁ mg mb G Y fa o pm cd doc dV kV ho hd hcd hD hmg hg args vals as hpre hlay hrd hwl hlo
    have KX := km_in_of Y
    have hT8 := km_tabs_of Y
    have X := (Ground.X G).1
    have V := (Ground.X G).2
    refine Ground.open G ?_
    intro T B D TE TW
    try (refine guard_noD D (by decide +kernel) ?_; clear D)
    have hT9 : TabsAt ([(186, 182), (193, 189)] : List (Addr × Addr)) _ := List.forall_mem_cons.mpr ⟨⟨codeHd_of_K (c := 186) (P := 182) KX (by kernel_rfl), hT8 182 (by simp)⟩, List.forall_mem_cons.mpr ⟨⟨codeHd_of_K (c := 193) (P := 189) KX (by kernel_rfl), hT8 189 (by simp)⟩, fun _ h => nomatch h⟩⟩
    clear hmg
    wrow_args hpre hlay hrd hwl hlo
    all_goals (
      first | refine callC_kw (enter_call ?_) | refine enter_call ?_
      w_top on
      refine Mine.code_post hT9 (fun _ _ => rfl) ?_
      w_call any ho hd hcd hD T F
      clear hd
      kn_ghosts F T
      k_drop
      skip)
    (rename Fr _ _ _ _ => kF')
    k_steps
    k_dflt (refine' ⟨comp_ex Ag ?xa ?xF ?xN ?xm ?xi ?xz (fun G n t I oI C oC D m2 ys h tk E' hC hx F N off ne => ?xturn) (fun G ys xs hS hl hP => ?xfin)⟩; (case xa => exact rfl); (case xF => k_asm); (case xN => k_asm); (case xm => k_mem); (case xi => assumption); (case xz => omega))
    case xturn =>
      walk_at "offs"
      k_steps
    case xfin =>
      have hl3 : xs.length = 3 := by rw [hl]; omega
      obtain ⟨a1, t1, a2, t2, a3, t3, rfl, rfl⟩ := strs_three hS hl3
      have g1 : Ag a1 := hP _ (by simp)
      have g2 : Ag a2 := hP _ (by simp)
      have g3 : Ag a3 := hP _ (by simp)
      k_steps
      k_dflt (refine' ⟨comp_ex Wd ?ya ?yF ?yN ?ym ?yi ?yz (fun G n t I oI C oC D m2 ys h tk E' hC hx F N off ne => ?yturn) (fun G ys xs hS hl hP => ?yfin)⟩; (case ya => exact rfl); (case yF => k_asm); (case yN => k_asm); (case ym => k_mem); (case yi => assumption); (case yz => omega))
      case yturn =>
        walk_at "offs"
        k_steps
      case yfin =>
        have hl7 : xs.length = 7 := by rw [hl]; omega
        have hne7 : xs ≠ [] := by intro e; rw [e] at hl7; cases hl7
        have hne7r : xs.reverse ≠ [] := by intro e; exact hne7 (List.reverse_eq_nil_iff.mp e)
        have hPr : ∀ u ∈ xs.reverse, Wd u := fun u hu => hP u (List.mem_reverse.mp hu)
        have hl7r : xs.reverse.length ≤ 100 := by rw [List.length_reverse]; omega
        k_steps
        refine ⟨?_⟩
        k_dflt (refine' rev_strs ?vF ?vN ?vm ?vS ?vz ?vk (fun D2 rv2 h2 hS2 F2 N2 l2 => ?vnext) ?vs ?vt)
        case vF => k_asm
        case vN => k_asm
        case vm => k_dflt k_mem
        case vS => exact hS
        case vz => omega
        case vk => exact IsPart.int _ _
        case vs => with_unfolding_all rfl
        case vt => kmk_pure
        case vnext =>
          (try k_lt l2)
          have hgA : ∀ x ∈ [a1, a2, a3], Ag x := by
            intro x hx
            simp only [List.mem_cons, List.not_mem_nil, or_false] at hx
            rcases hx with rfl | rfl | rfl
            · exact g1
            · exact g2
            · exact g3
          have hAS : StrsAre (#[.str a1 t1, .str a2 t2, .str a3 t3] : Array Value).toList [a1, a2, a3] := .cons _ _ (.cons _ _ (.cons _ _ .nil))
          k_steps
          k_dflt (refine' ⟨comp_strs revS ?za ?zF ?zN ?zm hAS ?zz (fun G x t I oI C oC D m2 ys h tk E' hxm hC hx F N off ne => ?zturn) (fun G ys hS3 => ?zfin)⟩; (case za => exact rfl); (case zF => k_asm); (case zN => k_asm); (case zm => k_mem); (case zz => exact Nat.le_of_ble_eq_true rfl))
          case zturn =>
            have hxl := (hgA x hxm).len
            walk_at "offs"
            k_steps
            exact ⟨rfl, _, congrArg (fun z => Value.str z _) (rev_tok x _)⟩
          case zfin =>
            obtain ⟨b1, u1, b2, u2, b3, u3, e3, rfl⟩ := strs_three hS3 rfl
            obtain ⟨q1, q2, q3⟩ : revS a1 = b1 ∧ revS a2 = b2 ∧ revS a3 = b3 := by simpa using e3
            have hr1 : cs b1 = (cs a1).reverse := by rw [← q1]; exact rev_cs a1
            have hr2 : cs b2 = (cs a2).reverse := by rw [← q2]; exact rev_cs a2
            have hr3 : cs b3 = (cs a3).reverse := by rw [← q3]; exact rev_cs a3
            have g1r : Ag b1 := g1.rev hr1
            have g2r : Ag b2 := g2.rev hr2
            have g3r : Ag b3 := g3.rev hr3
            clear q1 q2 q3 e3 hS3
            k_steps
            · refine goodW_bool (b := true) (by k_asm) rfl (fun _ => rfl) ?_
              wrow_post
            · repeat (first | exact AllBare.of_eq hg | (refine (by assumption : AllBare _ → AllBare _) ?_)))
end Mine
end
theorem PySem.Challenge.cw_wn0105_01_holds : PySem.Challenge.rw_wn0105_01.Holds := by
  exact Mine.Fin
