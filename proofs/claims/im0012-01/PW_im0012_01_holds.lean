import PyProof.Rows.All
import Wide.All
import OpenK.AllK
import Wide.FinOn
import PySem.Challenge.RW_im0012_01
set_option Elab.async false
set_option maxRecDepth 100000
namespace Mine
section
open PySem PySem.W PyProof.Rows
set_option maxHeartbeats 0
def btOf : List Obj → Nat → BT → Option BT
  | [], _, t => some t
  | o :: r, n, t => match ((t.ins n o).get n).isSome with
    | true => btOf r (n + 1) (t.ins n o)
    | false => none
theorem btOf_abs {life : Life} : ∀ (l : List Obj) (n : Nat) (t t' : BT), btOf l n t = some t' → absHeap t' (n + l.length) life = ⟨(absHeap t n life).objs ++ l.toArray, life⟩
  | [], n, t, t', h => by
    unfold btOf at h
    cases h
    show absHeap t n life = Heap.mk ((absHeap t n life).objs ++ #[]) life
    rw [Array.append_empty]
    rfl
  | o :: r, n, t, t', h => by
    unfold btOf at h
    cases g : ((t.ins n o).get n).isSome with
    | false => rw [g] at h; cases h
    | true =>
      rw [g] at h
      have := btOf_abs (life := life) r (n + 1) (t.ins n o) t' h
      rw [List.length_cons, show n + (r.length + 1) = n + 1 + r.length by omega, this, absHeap_ins g]
      have e : (absHeap t n life).push o = Heap.mk ((absHeap t n life).objs.push o) life := rfl
      rw [e]
      show Heap.mk _ _ = Heap.mk _ _
      congr 1
      simp
def topRunS (st : SharedT → Thread → Option (SharedT × Thread)) (ok : Thread → Bool) : Nat → SharedT → Thread → Option SharedT
  | 0, _, _ => none
  | n + 1, s, t => match through t with
    | true => some s
    | false => match ok t with
      | false => none
      | true => match st s t with
        | some (s', t') => topRunS st ok n s' t'
        | none => none
abbrev topRunT (tb : String → Option Builtin) (p : Program) (w : World) (n₀ : Nat) (ann : Option Value) : Nat → SharedT → Thread → Option SharedT := topRunS (stepT (denote tb) p w) (stepOk n₀ ann)
theorem topRun_of {tb : String → Option Builtin} {p : Program} {w : World} {n₀ : Nat} {ann : Option Value} : ∀ {n : Nat} {s s' : SharedT} {t : Thread}, topRunT tb p w n₀ ann n s t = some s' → topRun tb p w n₀ ann n s.abs t = some s'.abs
  | 0, _, _, _, h => by cases h
  | n + 1, s, s', t, h => by
    unfold topRunT topRunS at h
    unfold topRun
    cases he : through t with
    | true => rw [he] at h; cases h; rfl
    | false =>
      rw [he] at h
      cases hk : stepOk n₀ ann t with
      | false => rw [hk] at h; cases h
      | true =>
        rw [hk] at h
        cases hs : stepT (denote tb) p w s t with
        | none => rw [hs] at h; cases h
        | some r => obtain ⟨s₂, t₂⟩ := r; rw [hs] at h; dsimp only; rw [stepT_spec hs]; exact topRun_of h
def topFromT (tb : String → Option Builtin) (p : Program) (w : World) (N : Nat) (s₀ : Shared) : Option SharedT :=
  (btOf s₀.heap.objs.toList 0 .nil).bind fun t => topRunT tb p w s₀.heap.objs.size (s₀.heap.nsMap mainGlobals "__annotations__") N ⟨t, s₀.heap.objs.size, s₀.heap.life, s₀.gens, s₀.drawn, s₀.toks, s₀.os⟩ (topStub p)
theorem topFromT_spec {tb : String → Option Builtin} {p : Program} {w : World} {N : Nat} {s₀ : Shared} {s : SharedT} (h : topFromT tb p w N s₀ = some s) :
    topRun tb p w s₀.heap.objs.size (s₀.heap.nsMap mainGlobals "__annotations__") N s₀ (topStub p) = some s.abs := by
  obtain ⟨t, h1, h2⟩ := Option.bind_eq_some_iff.mp h
  have := topRun_of h2
  have e : SharedT.abs ⟨t, s₀.heap.objs.size, s₀.heap.life, s₀.gens, s₀.drawn, s₀.toks, s₀.os⟩ = s₀ := by
    have b := btOf_abs (life := s₀.heap.life) s₀.heap.objs.toList 0 .nil t h1
    rw [Nat.zero_add, Array.length_toList] at b
    obtain ⟨⟨objs, life⟩, g, d, k, os⟩ := s₀
    unfold SharedT.abs
    dsimp only at b ⊢
    rw [b]
    have e0 : (absHeap .nil 0 life).objs = #[] := rfl
    rw [e0]
    simp
  rw [e] at this
  exact this
/-- the looks behind the top -/
def looksT (p q : Program) (loose : List Str) (Xt : Shared → Bool) {α : Type} (Yf : Shared → α) (s₀ s : Shared) :=
  (s₀.heap.isNs mainGlobals && s₀.gens.size == 0, staticsOk (importedModules p.main.body) s₀.heap s.heap && namesBound p s.heap && gensDone s && laidKept s₀.heap s.heap,
    openSeen q loose (importedModules p.main.body) Xt true s, Yf s)
theorem leftO_of_tree {p q : Program} {loose : List Str} {Xt : Shared → Bool} {α : Type} {Yf : Shared → α} {Ya : World → α} {N : Nat}
    (h : ∀ w, ((fencedOpening treeTable p w N).bind fun s₀ => (topFromT treeTable p w N s₀).map fun s => looksT p q loose Xt Yf s₀ s.abs) = some (true, true, openGood q loose, Ya w)) : LeftO p q loose Xt Yf Ya N := fun w => by
  obtain ⟨s₀, h1, h2⟩ := Option.bind_eq_some_iff.mp (h w)
  obtain ⟨s, h3, h4⟩ := Option.map_eq_some_iff.mp h2
  have r := topFromT_spec h3
  unfold looksT at h4
  obtain ⟨l1, l2, l3, l4⟩ : _ ∧ _ ∧ _ ∧ _ := by simpa only [Prod.mk.injEq] using h4
  have t : topFrom treeTable p w N s₀ = some s.abs := by
    unfold topFrom
    rw [l1, r]
    show (match staticsOk (importedModules p.main.body) s₀.heap s.abs.heap && namesBound p s.abs.heap && gensDone s.abs && laidKept s₀.heap s.abs.heap with | true => _ | false => _) = _
    rw [l2]
  unfold openEnds
  rw [h1]
  show (topFrom treeTable p w N s₀).map _ = _
  rw [t]
  exact congrArg some (Prod.ext l3 l4)
/-- the same check, with the library's quick twins of the functions that run -/
theorem leftO_of_quick {p q : Program} {loose : List Str} {Xt : Shared → Bool} {α : Type} {Yf : Shared → α} {Ya : World → α} {N : Nat}
    (h : ∀ w, ((Fast.tw10274390034422433532 Fast.tw14364793385576792824 (opening p) w N (Fast.tw1435165496053646825 (opening p)).1 (Fast.tw1435165496053646825 (opening p)).2).bind (Fast.tw14289696077712309145 p)).bind (fun s₀ =>
      ((btOf s₀.heap.objs.toList 0 .nil).bind fun t => topRunS (Fast.tw10156331382660048174 (Fast.tw11892475500146522536 Fast.tw14364793385576792824) p w) (Fast.tw6613529449190102663 s₀.heap.objs.size (s₀.heap.nsMap mainGlobals "__annotations__")) N ⟨t, s₀.heap.objs.size, s₀.heap.life, s₀.gens, s₀.drawn, s₀.toks, s₀.os⟩ (topStub p)).map fun s =>
        (s₀.heap.isNs mainGlobals && s₀.gens.size == 0, staticsOk (importedModules p.main.body) s₀.heap s.abs.heap && namesBound p s.abs.heap && gensDone s.abs && laidKept s₀.heap s.abs.heap,
          Fast.tw4187177175401517315 q loose (importedModules p.main.body) Xt true s.abs, Yf s.abs)) = some (true, true, openGood q loose, Ya w)) : LeftO p q loose Xt Yf Ya N := by
  rw [← Fast.te10274390034422433532, ← Fast.te14364793385576792824, ← Fast.te1435165496053646825, ← Fast.te14289696077712309145, ← Fast.te10156331382660048174, ← Fast.te11892475500146522536, ← Fast.te6613529449190102663, ← Fast.te4187177175401517315] at h
  exact leftO_of_tree h
def pv : Program := view PySem.Challenge.pw_im0012_01 [0, 1, 3, 4, 5, 6, 7, 8, 9, 11, 13, 14]
def loo : List Str := [Str.ofString "BIT_MASK", Str.ofString "SHIFT", Str.ofString "PythonPVector", Str.ofString "_EMPTY_PVECTOR", Str.ofString "python_pvector", Str.ofString "pvector"]
def lvs : List (Str × WData) := [(Str.ofString "BIT_MASK", WData.int 31), (Str.ofString "SHIFT", WData.int 5)]
abbrev rw : RowW := PySem.Challenge.rw_im0012_01.row.toRowW
end
section
open PySem PySem.W PyProof.Rows
set_option maxHeartbeats 0
local macro_rules | `(tactic| o_head $H) => `(tactic|
  (refine holds_open (q := pv) (loose := loo) (Xt := fun s => xlAt pv lvs s && recOk rw.records s) (XP := XL pv lvs) (Yf := Hook.obs $H) (Ya := Hook.val $H) (YP := Hook.says $H) (N := 4670) ?hl (Hook.of $H) (Hook.keeps $H) (fun s e => xl_of s (Bool.and_eq_true_iff.mp e).1) XL.keeps (by rfl) (by rfl) (by rfl) (fun s e => recFacts_of (Bool.and_eq_true_iff.mp e).2) (by rfl) (by first | assumption | decide +kernel) (by decide +kernel) ⟨rfl, rfl, rfl, rfl, rfl, by decide +kernel⟩ ?hw ?hc
   (case hl => (refine leftO_of_quick ?_; intro w; kernel_rfl))))
open_top atop for PySem.Challenge.rw_im0012_01
end
section
open PySem PySem.W PyProof.Rows PySem.Calls
set_option maxHeartbeats 4000000
abbrev PW : Program := rw.prog
abbrev TP (mean : ExcName → Option Value) (mg mb : Str → Option Value) (h : Heap) : Prop := Top pv (looseW pv loo) mean mg mb h
/-- the surroundings, written out -/
abbrev AA (dp un : Nat) (gd : Option (List Code)) (fr : Option (List Env)) : Around := { handled := none, depth := dp, frames := fr, guards := gd, units := un }
section
variable {prog : Program} {w : World} {A : Around} {s : Shared} {h₀ : Heap} {L : Addr} {m : Str → Option Value} {news : List (Addr × Obj)} {K : Frag}
  {R : Result → Shared → Prop} {name qual : Str} {params : Arguments} {body : List Stmt} {scope : Scope} {cl : List (Str × Addr)} {dV kV doc pm cdv ct oc : Value} {an od : Option Addr} {osl : Array (Option Value)} {f : Addr} {args : Args} {binds : List (Str × Value)}
  {p : Program} {loose : List Str} {mean : ExcName → Option Value} {mg mb : Str → Option Value}
theorem stays_hide (N : ∀ q ∈ news, h₀.get? q.1 = none) (k : h₀.StaysIn s.heap) : h₀.StaysIn (hideAll s.heap (news.map Prod.fst)) := fun b o e => hideAll_get _ (k b o e) fun q => by
  obtain ⟨p, hp, rfl⟩ := List.mem_map.mp q
  rw [N p hp] at e; cases e
/-- a def of the written part is entered; the ledger goes along -/
theorem enterN (F : Fr h₀ L s.heap m) (X : K.In h₀) (N : News h₀ L s.heap news) (T : Top p loose mean mg mb h₀)
    (ho : K.lookup f = some ⟨oc, od, .func (fnX name qual params body scope cl dV kV doc pm an cdv ct), osl⟩) (hcd : codeIn K cdv qual = true) (hroom : A.depth < recursionLimit)
    (hbind : BindsTo s (fnX name qual params body scope cl dV kV doc pm an cdv ct) args binds) (hloc : ∀ y ∈ binds, scope.names.lookup y.1 = some .local)
    (h : ∀ g L' h₁, Fr h₀ L g m → Fr g L' h₁ (fun y => binds.reverse.lookup y) → News g L' h₁ news → K.In g → Top p loose mean mg mb g → (∀ p ∈ news, p.1 < L') →
      wpAny (model prog w) (A.deeper (envX qual scope L' f cdv cl)) (execs body (envX qual scope L' f cdv cl))
        (fun fl s' => LeaveK h₀ L m g R (match fl with | .ret v => v | _ => .none) s') (fun _ _ => False) { s with heap := h₁, toks := s.toks + binds.length })
    (hco : scope.isCoroutine = false) (hgen : scope.isGenerator = false) (hk : scope.kind = .function)
    (hcell : ∀ x ∈ scope.names, x.2 ≠ .cell) : codeAny (model prog w) A (.call (.ref f) args) R s := by
  have st := stays_hide (fun q hq => (N q hq).2.2) F.keep
  obtain ⟨oL, es, ep, hL, hLd, hLk, hLf⟩ := F.ns
  have nL : L ∉ news.map Prod.fst := fun q => by
    obtain ⟨p, hp, e⟩ := List.mem_map.mp q
    exact (N p hp).2.1 e
  have hLg := hideAll_get (news.map Prod.fst) hL nL
  refine codeAny_call_def (fd := fnX name qual params body scope cl dV kV doc pm an cdv ct) (body := body) (binds := binds) hroom (X.keeps F.keep _ _ ho) rfl (T.nolimit.keeps F.keep) (codeRec_of (X.keeps F.keep) hcd) rfl hbind hcell hloc (fun h₁ hns hk₁ => ?_) hco hgen hk
  refine wpAny_mono (h (hideAll s.heap (news.map Prod.fst)) s.heap.objs.size h₁ ⟨⟨oL, es, ep, hLg, hLd, hLk, hLf⟩, st, F.above⟩ ⟨hns, fun b o e => hk₁ b o (of_hideAll _ e), Nat.le_of_eq (hideAll_size _ _)⟩
    (fun p hp => ⟨hk₁ _ _ (N p hp).1, Nat.ne_of_lt (Heap.lt_size (N p hp).1), hideAll_none _ (List.mem_map_of_mem hp)⟩) (X.keeps st) (T.keeps st) (fun p hp => Heap.lt_size (N p hp).1)) (fun fl s' hl => ?_) fun _ _ y => y.elim
  obtain ⟨L', m', news', F', N', k⟩ := hl
  refine k ⟨⟨oL, es, ep, F'.keep L oL hLg, hLd, hLk, hLf⟩, fun b o e => F'.keep b o (st b o e), F.above⟩ fun p hp => ⟨(N' p hp).1, fun q => ?_, ?_⟩
  · have := (N' p hp).2.2; rw [q, hLg] at this; cases this
  · cases q : h₀.get? p.1 with
    | none => rfl
    | some o => have := (N' p hp).2.2; rw [st _ _ q] at this; cases this
/-- the objects that a call may turn -/
def Owns (h h₀ : Heap) (own : List (Addr × Obj)) : Prop := ∀ q ∈ own, h.get? q.1 = some q.2 ∧ h₀.get? q.1 = none
theorem Owns.nil {h h₀ : Heap} : Owns h h₀ [] := fun _ hq => nomatch hq
/-- a def of the written part is entered from any state that keeps the ground; `own` are the objects that it may turn -/
theorem enter {own : List (Addr × Obj)} (O : Owns s.heap h₀ own) (st : h₀.StaysIn s.heap) (X : K.In h₀) (T : Top p loose mean mg mb h₀)
    (ho : K.lookup f = some ⟨oc, od, .func (fnX name qual params body scope cl dV kV doc pm an cdv ct), osl⟩) (hcd : codeIn K cdv qual = true) (hroom : A.depth < recursionLimit)
    (hbind : BindsTo s (fnX name qual params body scope cl dV kV doc pm an cdv ct) args binds) (hloc : ∀ y ∈ binds, scope.names.lookup y.1 = some .local)
    (h : ∀ g L' h₁, (∀ b o, s.heap.get? b = some o → b ∉ own.map Prod.fst → g.get? b = some o) → h₀.StaysIn g → (∀ b, s.heap.objs.size ≤ b → g.get? b = none) → Fr g L' h₁ (fun y => binds.reverse.lookup y) → News g L' h₁ own → K.In g → Top p loose mean mg mb g → (∀ p ∈ own, p.1 < L') →
      wpAny (model prog w) (A.deeper (envX qual scope L' f cdv cl)) (execs body (envX qual scope L' f cdv cl))
        (fun fl s' => R (.ok (.ret (match fl with | .ret v => v | _ => .none))) s') (fun _ _ => False) { s with heap := h₁, toks := s.toks + binds.length })
    (hco : scope.isCoroutine = false) (hgen : scope.isGenerator = false) (hk : scope.kind = .function)
    (hcell : ∀ x ∈ scope.names, x.2 ≠ .cell) : codeAny (model prog w) A (.call (.ref f) args) R s := by
  have st' := stays_hide (fun q hq => (O q hq).2) st
  refine codeAny_call_def (fd := fnX name qual params body scope cl dV kV doc pm an cdv ct) (body := body) (binds := binds) hroom (X.keeps st _ _ ho) rfl (T.nolimit.keeps st) (codeRec_of (X.keeps st) hcd) rfl hbind hcell hloc (fun h₁ hns hk₁ => ?_) hco hgen hk
  refine wpAny_mono (h (hideAll s.heap (own.map Prod.fst)) s.heap.objs.size h₁ (fun b o e n => hideAll_get _ e n) st' (fun b hb => ?_) ⟨hns, fun b o e => hk₁ b o (of_hideAll _ e), Nat.le_of_eq (hideAll_size _ _)⟩
    (fun p hp => ⟨hk₁ _ _ (O p hp).1, Nat.ne_of_lt (Heap.lt_size (O p hp).1), hideAll_none _ (List.mem_map_of_mem hp)⟩) (X.keeps st') (T.keeps st') (fun p hp => Heap.lt_size (O p hp).1)) (fun fl s' hl => hl) fun _ _ y => y.elim
  cases q : (hideAll s.heap (own.map Prod.fst)).get? b with
  | none => rfl
  | some o => exact absurd (Heap.lt_size (of_hideAll _ q)) (Nat.not_lt.mpr hb)
end
/-- heap h' has all that h has -/
abbrev Ext (h h' : Heap) : Prop := ∀ b o, h.get? b = some o → h'.get? b = some o
theorem inst_keeps {h h' : Heap} {x C : Addr} {ox : Obj} {od : Option Obj} (I : InstAt h x ox C od) (k : ∀ b o, h.get? b = some o → h'.get? b = some o) : InstAt h' x ox C od := by
  obtain ⟨a, b, c, d⟩ := I
  refine ⟨k _ _ a, b, c, ?_⟩
  cases hd : ox.dict with
  | none => cases od with
    | none => rw [hd] at d; trivial
    | some o => rw [hd] at d; exact d.elim
  | some dx => cases od with
    | none => rw [hd] at d; exact d.elim
    | some o => rw [hd] at d; exact k _ _ d
/-- a vector's own object -/
abbrev vObj (dx : Addr) (c r sh t o : Value) : Obj := ⟨.ref 296, some dx, .plain, #[some c, some r, some sh, some t, some o]⟩
abbrev lObj (vs : List Value) (n : Nat) : Obj := { cls := .type "list", data := .seq vs.toArray n }
end
section
open PySem PySem.W PyProof.Rows PySem.Calls
set_option maxHeartbeats 4000000
theorem none_of {h g : Heap} {x : Addr} (k : ∀ b o, h.get? b = some o → g.get? b = some o) (e : g.get? x = none) : h.get? x = none := by
  cases q : h.get? x with
  | none => rfl
  | some o =>
    have z := k _ _ q
    rw [z] at e
    cases e
/-- an address apart from all of a ledger's -/
def AllNe (d : Addr) : List (Addr × Obj) → Prop
  | [] => True
  | p :: r => @Ne Nat p.1 d ∧ AllNe d r
theorem allNe_of {d : Addr} : ∀ {l : List (Addr × Obj)}, (∀ p ∈ l, p.1 ≠ d) → AllNe d l
  | [], _ => trivial
  | p :: _, h => ⟨h p (.head _), allNe_of fun q hq => h q (.tail _ hq)⟩
theorem AllNe.all {d : Addr} : ∀ {l : List (Addr × Obj)}, AllNe d l → ∀ p ∈ l, p.1 ≠ d
  | [], _, _, hp => nomatch hp
  | q :: l, h, p, hp => by
    rcases List.mem_cons.mp hp with e | hp
    · exact e ▸ h.1
    · exact AllNe.all h.2 p hp
theorem news_ne {h₀ h : Heap} {L x : Addr} {news : List (Addr × Obj)} (N : News h₀ L h news) (e : h.get? x = none) : ∀ p ∈ news, p.1 ≠ x := fun p hp q => by
  have z := (N p hp).1
  rw [q, e] at z; cases z
theorem fr_ext {h₀ h h' : Heap} {L : Addr} {m : Str → Option Value} (F : Fr h₀ L h m) (k : Ext h h') : Fr h₀ L h' m := by
  obtain ⟨oL, a1, a2, hL, a3⟩ := F.ns
  exact ⟨⟨oL, a1, a2, k _ _ hL, a3⟩, fun b o e => k _ _ (F.keep b o e), F.above⟩
theorem news_ext {h₀ h h' : Heap} {L : Addr} {news : List (Addr × Obj)} (N : News h₀ L h news) (k : Ext h h') : News h₀ L h' news := fun p hp => ⟨k _ _ (N p hp).1, (N p hp).2⟩
/-- a new object of a call goes onto the ledger -/
theorem news_add {h₀ h h' : Heap} {L x : Addr} {o : Obj} {m : Str → Option Value} {news : List (Addr × Obj)} (F : Fr h₀ L h m) (N : News h₀ L h' news) (n : h.get? x = none) (e : h'.get? x = some o) : News h₀ L h' ((x, o) :: news) := by
  intro p hp
  rcases List.mem_cons.mp hp with rfl | hp
  · refine ⟨e, fun q => ?_, ?_⟩
    · obtain ⟨oL, _, _, hL, _⟩ := F.ns
      have q' : x = L := q
      rw [q', hL] at n; cases n
    · exact none_of F.keep n
  · exact N p hp
end
section
open PySem PySem.W PyProof.Rows PySem.Calls
set_option maxHeartbeats 4000000
open PySem.Builtin
section
variable {prog : Program} {w : World} {M : Model} {A : Around} {E : Value → Shared → Prop} {h : Heap} {g : Array GenState} {d : Drawn} {t : Nat} {os : OsState}
theorem call_super_cls {C : Addr} {oD : Obj} {cdD : ClassData} {Q : Value → Shared → Prop} (hD : h.get? C = some oD) (hDt : oD.data = .cls cdD) (hsub : Looks (model prog w) h (isSubtype (.ref C) (.ref C)) true)
    (hq : ∀ h', h'.get? h.objs.size = some { cls := .type "super", dict := none, data := .fields #[.ref C, .ref C, .ref C], slots := #[] } → (∀ y o, h.get? y = some o → h'.get? y = some o) → Q (.ref h.objs.size) ⟨h', g, d, t, os⟩) :
    wpAny (model prog w) A (call (.type "super") [.ref C, .ref C]) Q E ⟨h, g, d, t, os⟩ := by
  refine ks_callType_codesW (Q₁ := fun obj s₁ => obj = .ref h.objs.size ∧ s₁ = ⟨h.push { cls := .type "super", data := .fields #[.none, .none, .none] }, g, d, t, os⟩) F.ks_called_super (ks_wpAny_checkTypeCall_super hD hDt) F.ks_entry_super_init
    (ks_code_super_new _ _ ⟨rfl, rfl⟩) fun obj s₁ h₁ => ?_
  obtain ⟨rfl, rfl⟩ := h₁
  have up : ∀ y o, h.get? y = some o → (h.push { cls := .type "super", data := .fields #[.none, .none, .none] }).get? y = some o := fun y o e => Heap.get?_push_of_some _ e
  have hso : (h.push { cls := .type "super", data := .fields #[.none, .none, .none] }).get? h.objs.size = some { cls := .type "super", dict := none, data := .fields #[.none, .none, .none], slots := #[] } := Heap.get?_push_at rfl rfl
  have hD' := up _ _ hD
  have hsub' := hsub.keeps up
  refine ⟨⟨_, hso, rfl⟩, F.ks_initArgs_super _ _ _, ?_⟩
  unfold Builtin.«super.__init__» noKeywords
  repeat (first | (with_reducible refine ks_wpAny_isType_cls hD' hDt ?_) | (with_reducible refine Looks.at hsub' ?_) | (with_reducible refine ks_wpAny_super_set3 hso ?_) | wp_step)
  all_goals first
    | (intro h' e k; exact ⟨rfl, hq h' e fun y o ey => k y o (Nat.ne_of_lt (Heap.lt_size ey)) (up y o ey)⟩)
    | (refine ks_wpAny_super_set3 hso ?_; intro h' e k; exact ⟨rfl, hq h' e fun y o ey => k y o (Nat.ne_of_lt (Heap.lt_size ey)) (up y o ey)⟩)
theorem object_new_own (Y : Looks (model prog w) h (Bind.staticBase (.ref 296)) (.type "object")) (Z : Looks (model prog w) h (isSubtype (.ref 296) (.type "object")) true)
    {oc od cd sl} (hC : h.get? 296 = some ⟨oc, od, .cls cd, sl⟩) (e1 : cd.abstract = false) (e2 : cd.hasDel = false) {R : Result → Shared → Prop}
    (hq : R (.ok (.ret (.ref (h.objs.size + 1)))) ⟨(h.push emptyDict).push (instObj 296 h.objs.size), g, d, t, os⟩) :
    codeAny (model prog w) A (.call (.builtin "object.__new__") ⟨[.ref 296], []⟩) R ⟨h, g, d, t, os⟩ := by
  have F := PySem.F.objNew
  refine codeAny_call_builtin_code (Code.quiet_builtin _ F.quiet) ?_
  simp only [checkBuiltinCall, F.kind, F.split, F.row]
  have made : Bind.madeBy (.type "object") = pure (some "object.__new__") := madeBy_type (c := .type "object") (tl := []) (by rw [mroOf_type]; kernel_rfl) (by rw [typeLookup_type, builtinLookup_eq_fast]; kernel_rfl) (by decide +kernel)
  have L2 : Looks (model prog w) h (Bind.madeBy (.type "object")) (some "object.__new__") := Looks.of_pure made
  have here : Looks (model prog w) h (Bind.madeHere "object.__new__" (.ref 296)) () := Y.andThen (L2.andThen (Looks.of_pure (by simp only [Option.map_some, bne_self_eq_false, Bool.false_eq_true, if_false])))
  have args : Bind.checkArgs "object.__new__" ⟨.hand, "object.__new__", "__new__", .cls, []⟩ ⟨[.ref 296], []⟩ = pure () := by kernel_rfl
  rw [args]
  repeat (first | simp only [bne_self_eq_false, Bool.false_eq_true, if_false] | lk)
  refine codeAny_builtin F.entry ?_
  unfold Builtin.«object.__new__»
  have fin : ∀ A', wpAny (model prog w) A' (do
      let d ← if typeHasDict (.ref 296) then some <$> alloc { cls := .type "dict", data := .dict #[] } else pure none
      ret (← newObj (.ref 296) .plain d)) (fun fin s' => match fin with | .done f => R (.ok f) s' | .again c' => c'.quiet = true ∧ codeAny (model prog w) A c' R s') (fun e s' => R (.error e) s') ⟨h, g, d, t, os⟩ := by
    intro A'
    show wpAny _ _ ((alloc emptyDict >>= fun x => pure (some x)) >>= _) _ _ _
    refine wpAny_bind (wpAny_bind (wpAny_alloc (wpAny_pure (wpAny_bind ?_))))
    show wpAny _ _ (newObjAsIs _ _ _) _ _ _
    unfold newObjAsIs classHasDel
    refine wpAny_bind (wpAny_alloc (wpAny_bind (wpAny_bind (wpAny_load (Heap.get?_push_of_some _ (Heap.get?_push_of_some _ hC)) (wpAny_pure ?_)))))
    rw [e2]
    refine wpAny_pure (wpAny_pure ?_)
    show R _ _
    rw [Heap.size_push]
    exact hq
  repeat (first | simp only [e1, Bool.false_eq_true, if_false] | exact fin _ | lk)
end
end
section
open PySem PySem.W PyProof.Rows PySem.Calls
set_option maxHeartbeats 4000000
open PySem.Builtin
section
variable {prog : Program} {w : World} {M : Model} {A : Around} {E : Value → Shared → Prop} {h : Heap} {g : Array GenState} {d : Drawn} {t : Nat} {os : OsState}
theorem own_new (prog : Program) (w : World) (h : Heap) : Looks (model prog w) h (classOwn (.type "object") "__new__") (some (.builtin "object.__new__")) := Looks.of_pure (by kernel_rfl)
theorem get_of_new (prog : Program) (w : World) (h : Heap) : Looks (model prog w) h (typeOf (.builtin "object.__new__") >>= fun t => typeLookup t "__get__") none := Looks.of_pure (by kernel_rfl)
theorem super_ga_new {so C : Addr} {l₀ : List Value} {tk : Tok} {Q : Fin → Shared → Prop}
    (hso : h.get? so = some { cls := .type "super", dict := none, data := .fields #[.ref C, .ref C, .ref C], slots := #[] }) (hno : Looks (model prog w) h (opaqueClassAbove (.ref C)) none)
    (hC : Looks (model prog w) h (mroOf (.ref C)) l₀) (hl : (l₀.dropWhile (· != .ref C)).drop 1 = [.type "object"])
    (hq : Q (.done (.ret (.builtin "object.__new__"))) ⟨h, g, d, t, os⟩) :
    wpAny (model prog w) A (Builtin.«super.__getattribute__» ⟨[.ref so, .str "__new__" tk], []⟩) Q E ⟨h, g, d, t, os⟩ := by
  have hdt : ({ cls := .type "super", dict := none, data := .fields #[.ref C, .ref C, .ref C], slots := #[] } : Obj).data = .fields #[.ref C, .ref C, .ref C] := rfl
  have f0 : (#[.ref C, .ref C, .ref C] : Array Value)[0]? = some (.ref C) := rfl
  have f1 : (#[.ref C, .ref C, .ref C] : Array Value)[1]? = some (.ref C) := rfl
  have f2 : (#[.ref C, .ref C, .ref C] : Array Value)[2]? = some (.ref C) := rfl
  have o1 := own_new prog w h
  have o2 : Looks (model prog w) h (typeOf (.builtin "object.__new__")) (.type "builtin_function_or_method") := Looks.of_pure (by kernel_rfl)
  have o3 : Looks (model prog w) h (typeLookup (.type "builtin_function_or_method") "__get__") none := Looks.of_pure (by kernel_rfl)
  have o4 : Looks (model prog w) h (handedOut (.builtin "object.__new__")) (.builtin "object.__new__") := Looks.of_pure (by kernel_rfl)
  have hn : (("__new__" : Str) == ("__class__" : Str)) = false := by decide +kernel
  unfold Builtin.«super.__getattribute__»
  repeat (first
    | (with_reducible refine wpAny_field hso hdt f0 ?_) | (with_reducible refine wpAny_field hso hdt f1 ?_) | (with_reducible refine wpAny_field hso hdt f2 ?_)
    | (with_reducible refine ks_wpAny_notOpaque hno ?_)
    | (with_reducible refine Looks.at hC ?_; rw [hl])
    | (with_reducible refine Looks.at o1 ?_)
    | (with_reducible refine Looks.at o2 ?_)
    | (with_reducible refine Looks.at o3 ?_)
    | (with_reducible refine Looks.at o4 ?_)
    | (rw [List.forIn_cons])
    | (simp only [hn, Bool.or_false, Bool.false_eq_true, if_false])
    | wp_step
    | dsimp only)
  all_goals exact hq
theorem getMethod_super_new {so C : Addr} {l₀ : List Value} {pl : Sem Bool} {Q : Value × List Value → Shared → Prop}
    (hso : h.get? so = some { cls := .type "super", dict := none, data := .fields #[.ref C, .ref C, .ref C], slots := #[] }) (hno : Looks (model prog w) h (opaqueClassAbove (.ref C)) none)
    (hC : Looks (model prog w) h (mroOf (.ref C)) l₀) (hl : (l₀.dropWhile (· != .ref C)).drop 1 = [.type "object"])
    (hq : Q (.builtin "object.__new__", []) ⟨h, g, d, t + 1, os⟩) :
    wpAny (model prog w) A (getMethod (.ref so) "__new__" pl) Q E ⟨h, g, d, t, os⟩ := by
  have hlk := F.ks_slot_super_ga.lookup
  have hcan := F.ks_canon_super_ga
  have hT : ∀ t', (⟨h, g, d, t', os⟩ : Shared).TypeIs (.ref so) "super" := fun _ => ⟨_, hso, rfl⟩
  unfold getMethod
  refine wpAny_bind (wpAny_specialOf (hT _) hlk ?_)
  show wpAny _ _ (if (Manifest.canonical "super.__getattribute__" != "object.__getattribute__") = true then _ else _) _ _ _
  rw [if_pos hcan]
  unfold getAttr getAttrBy
  refine wpAny_bind (wpAny_bind (wpAny_mkText (wpAny_holding (wpAny_bind (wpAny_typeOf (hT _) (wpAny_bind (wpAny_of_eq hlk ?_)))))))
  show wpAny _ _ (getAttrByItsOwn (.ref so) (.str "__new__" t) (.type "super") (.builtin "super.__getattribute__") true false) _ _ _
  unfold getAttrByItsOwn hookBefore callGetattribute boundAndCalled
  refine wpAny_bind (wpAny_of_eq (show (if onTheHeap (.type "super") then typeLookup (.type "super") "__getattr__" else pure none) = pure none from rfl) ?_)
  refine wpAny_bind (wpAny_attempt (wpAny_holding ?_))
  show wpAny _ _ (bindSpecial (.builtin "super.__getattribute__") (.ref so) >>= _) _ _ _
  refine wpAny_bind (wpAny_of_eq (F.ks_slot_super_ga.bind _) ?_)
  refine wpAny_mono (Q := fun v s' => v = .builtin "object.__new__" ∧ s' = ⟨h, g, d, t + 1, os⟩) (E := fun _ _ => False)
    (wpAny_call_entry F.ks_slot_super_ga (hT _) F.ks_entry_super_ga (super_ga_new hso hno hC hl ⟨_, rfl, rfl, rfl⟩) (F.ks_gaArgs_super _ _)) (fun v s' hv => ?_) fun _ _ z => z.elim
  obtain ⟨rfl, rfl⟩ := hv
  exact wpAny_pure (wpAny_pure hq)
end
end
section
open PySem PySem.W PyProof.Rows PySem.Calls
set_option maxHeartbeats 4000000
open PySem.Builtin
abbrev superObj : Obj := { cls := .type "super", dict := none, data := .fields #[.ref 296, .ref 296, .ref 296], slots := #[] }
def clsFine (K : Frag) : Bool := match K.lookup 296 with
  | some ⟨_, _, .cls cd, _⟩ => !cd.abstract && !cd.hasDel
  | _ => false
theorem cls_at {w : World} {h : Heap} (X : (atop.heap_39 w.params).In h) : ∃ oc od cd sl, h.get? 296 = some ⟨oc, od, .cls cd, sl⟩ ∧ cd.abstract = false ∧ cd.hasDel = false := by
  have e : clsFine (atop.heap_39 w.params) = true := by kernel_rfl
  unfold clsFine at e
  split at e
  · rename_i oc od cd sl q
    simp only [Bool.and_eq_true, Bool.not_eq_true'] at e
    exact ⟨oc, od, cd, sl, X _ _ q, e.1, e.2⟩
  · cases e
section
variable {w : World} {A : Around} {E : Value → Shared → Prop} {s : Shared} {h₀ : Heap} {L : Addr} {m : Str → Option Value} {news : List (Addr × Obj)}
theorem look_self {prog : Program} {h : Heap} (X : (atop.heap_39 w.params).In h) : Looks (model prog w) h (isSubtype (.ref 296) (.ref 296)) true := looks_mroIn X (by kernel_rfl)
theorem look_obj {prog : Program} {h : Heap} (X : (atop.heap_39 w.params).In h) : Looks (model prog w) h (isSubtype (.ref 296) (.type "object")) true := looks_mroIn X (by kernel_rfl)
theorem look_mro {prog : Program} {h : Heap} (X : (atop.heap_39 w.params).In h) : Looks (model prog w) h (mroOf (.ref 296)) [.ref 296, .type "object"] := Looks.of_peek X (by kernel_rfl)
theorem look_opaque {prog : Program} {h : Heap} (X : (atop.heap_39 w.params).In h) : Looks (model prog w) h (opaqueClassAbove (.ref 296)) none := Looks.of_peek X (by kernel_rfl)
theorem look_made {prog : Program} {h : Heap} (X : (atop.heap_39 w.params).In h) : Looks (model prog w) h (Bind.madeBy (.ref 296)) none := Looks.of_peek X (by kernel_rfl)
theorem look_base {prog : Program} {h : Heap} (X : (atop.heap_39 w.params).In h) : Looks (model prog w) h (Bind.staticBase (.ref 296)) (.type "object") := Looks.of_peek X (by kernel_rfl)
theorem look_call {prog : Program} {h : Heap} (X : (atop.heap_39 w.params).In h) : Looks (model prog w) h (specialOf (.ref 296) "__call__") (some (.builtin "type.__call__")) := Looks.of_peek X (by kernel_rfl)
theorem look_type {prog : Program} {h : Heap} (X : (atop.heap_39 w.params).In h) : Looks (model prog w) h (isInstance (.ref 296) (.type "type")) true := Looks.of_peek X (by kernel_rfl)
theorem look_init {prog : Program} {h : Heap} (X : (atop.heap_39 w.params).In h) : Looks (model prog w) h (typeLookup (.ref 296) "__init__") (some (.builtin "object.__init__")) := Looks.of_peek X (by kernel_rfl)
theorem call_super_N {prog : Program} {Q : Value → Shared → Prop} (F : Fr h₀ L s.heap m) (X₀ : (atop.heap_39 w.params).In h₀) (N : News h₀ L s.heap news)
    (h : ∀ so h', Fr h₀ L h' m → News h₀ L h' ((so, superObj) :: news) → (∀ p ∈ news, p.1 < so) → Q (.ref so) { s with heap := h' }) : wpAny (model prog w) A (call (.type "super") [.ref 296, .ref 296]) Q E s := by
  have X := X₀.keeps F.keep
  obtain ⟨oc, od, cd, sl, hC, e1, e2⟩ := cls_at X
  obtain ⟨hh, g, d, t, os⟩ := s
  refine call_super_cls hC rfl (look_self X) fun h' e k => ?_
  obtain ⟨oL, a1, a2, hL, a3⟩ := F.ns
  refine h _ _ ⟨⟨oL, a1, a2, k _ _ hL, a3⟩, fun b o e => k _ _ (F.keep b o e), F.above⟩ (fun p hp => ?_) fun p hp => Heap.lt_size (N p hp).1
  rcases List.mem_cons.mp hp with rfl | hp
  · refine ⟨e, Nat.ne_of_gt (Heap.lt_size hL), ?_⟩
    cases q : h₀.get? hh.objs.size with
    | none => rfl
    | some o => exact absurd (Heap.lt_size (F.keep _ _ q)) (Nat.lt_irrefl _)
  · exact ⟨k _ _ (N p hp).1, (N p hp).2⟩
theorem getMethod_super_N {prog : Program} {so : Addr} {pl : Sem Bool} {Q : Value × List Value → Shared → Prop} (F : Fr h₀ L s.heap m) (X₀ : (atop.heap_39 w.params).In h₀) (N : News h₀ L s.heap news) (hm : (so, superObj) ∈ news)
    (h : Q (.builtin "object.__new__", []) { s with toks := s.toks + 1 }) : wpAny (model prog w) A (getMethod (.ref so) (Str.ofString "__new__") pl) Q E s := by
  have X := X₀.keeps F.keep
  obtain ⟨hh, g, d, t, os⟩ := s
  exact getMethod_super_new (N _ hm).1 (look_opaque X) (look_mro X) rfl h
theorem object_new_N {prog : Program} {Q : Value → Shared → Prop} (F : Fr h₀ L s.heap m) (X₀ : (atop.heap_39 w.params).In h₀) (N : News h₀ L s.heap news)
    (h : ∀ x dx h', Fr h₀ L h' m → News h₀ L h' ((x, instObj 296 dx) :: (dx, dictOf [] 0) :: news) → (∀ p ∈ news, p.1 < dx) → dx < x → Q (.ref x) { s with heap := h' }) :
    wpAny (model prog w) A (call (.builtin "object.__new__") [.ref 296]) Q E s := by
  have X := X₀.keeps F.keep
  obtain ⟨oc, od, cd, sl, hC, e1, e2⟩ := cls_at X
  obtain ⟨hh, g, d, t, os⟩ := s
  have N' := (N.push F emptyDict).push (F.push _) (instObj 296 hh.objs.size)
  rw [Heap.size_push] at N'
  exact wpAny_call (object_new_own (look_base X) (look_obj X) hC e1 e2 (h _ _ _ ((F.push _).push _) N' (fun p hp => Heap.lt_size (N p hp).1) (Nat.lt_succ_self _)))
end
end
section
open PySem PySem.W PyProof.Rows PySem.Calls
local macro_rules | `(tactic| k_inst) => `(tactic| exact inst_keeps (by assumption) (Fr.keep (by k_asm)))
local macro_rules | `(tactic| k_room) => `(tactic| ((try simp only [depth_under_make, depth_under_kw, depth_in1, depth_deeper, depth_caller, recursionLimit] at *); omega))
local macro_rules | `(tactic| k_units) => `(tactic| ((have hcL9 := cLine_is); (try simp only [units_in1, units_deeper, Around.mark_units, units_caller] at *); omega))
local macro_rules | `(tactic| ktr_enter) => `(tactic| (
  refine' enter ?O ?st ?X ?T ?ho ?hcd ?room ?hbind ?hloc ?_ ?c1 ?c2 ?c3 ?c4
  (case O => assumption)
  (case st => assumption)
  (case X => assumption)
  (case T => assumption)
  (case ho => k_is)
  (case hcd => k_is)
  (case room => k_room)
  (case hbind => exact BindsTo.of_eq rfl)
  (case hloc => exact locs rfl)
  (case c1 => exact rfl)
  (case c2 => exact rfl)
  (case c3 => exact rfl)
  (case c4 => decide)))
section
open PySem PySem.W PyProof.Rows PySem.Calls
set_option maxHeartbeats 4000000
theorem fresh_NewD : True := by w_top off; trivial
theorem fillIt : (atop.heap_39, PySem.Challenge.rw_im0012_01).1 = atop.heap_39 := by k_fill; rfl
local macro_rules | `(tactic| walk_at "call builtin:len") => `(tactic| (k_here; (with_reducible show wpAny _ _ (call (Value.builtin "len") [Value.ref _]) _ _ _); k_dflt (refine' call_len_list ?l ?z ?_; (case l => is_list); (case z => (simp only [List.size_toArray, List.length_cons, List.length_nil, List.length_append, List.length_map]; omega)); k_whole); (try simp only [List.size_toArray])))
theorem boot_sup : bootBuiltins (Str.ofString "super") = some (.type "super") := by kernel_rfl
local macro_rules | `(tactic| walk_at "eval Name") => `(tactic| (k_here; k_dflt (refine' nameX_B ?F ?X ?T ?e boot_sup ?n ?_ ?a ?b; (case F => k_asm); (case X => k_asm); (case T => k_asm); (case a => rfl); (case b => rfl); (case e => k_is); (case n => decide); k_whole)))
local macro_rules | `(tactic| walk_at "call type:super") => `(tactic| (k_here; k_dflt (refine' call_super_N ?F ?X ?N ?_; (case F => k_asm); (case X => k_asm); (case N => k_asm); k_whole; intro so' h' F' N' l1; (try k_lt l1); (try k_sweep))))
local macro_rules | `(tactic| walk_at "getMethod ref") => `(tactic| (k_here; k_dflt (refine' getMethod_super_N ?F ?X ?N ?m ?_; (case F => k_asm); (case X => k_asm); (case N => k_asm); (case m => k_mem); k_whole)))
local macro_rules | `(tactic| walk_at "call builtin:object.__new__") => `(tactic| (k_here; k_dflt (refine' object_new_N ?F ?X ?N ?_; (case F => k_asm); (case X => k_asm); (case N => k_asm); k_whole; intro x' d' h' F' N' l1 l2; (try k_lt l1); (try k_lt2 l2); (try k_sweep))))
theorem new_spec {w : World} {mean : ExcName → Option Value} {mg mb : Str → Option Value} {h₀ : Heap} {s : Shared} {A : Around} {n : Int} {tn ts : Tok} {r t : Addr} {vs : List Value} {R : Result → Shared → Prop}
    (st : h₀.StaysIn s.heap) (X : (atop.heap_39 w.params).In h₀) (T : TP mean mg mb h₀) (ht : s.heap.IsList t vs.toArray) (hz : vs.length ≤ 4000) (hd : A.depth < 990)
    (hR : ∀ x dx tk' h' tk, Ext s.heap h' → s.heap.get? x = none → s.heap.get? dx = none → @Ne Nat dx x → h'.get? x = some (vObj dx (.int n tn) (.ref r) (.int 5 ts) (.ref t) (.int (n - vs.length) tk')) → h'.get? dx = some (dictOf [] 0) → R (.ok (.ret (.ref x))) { s with heap := h', toks := tk }) :
    codeAny (model PW w) A (.call (.ref 71) ⟨[.ref 296, .int n tn, .int 5 ts, .ref r, .ref t], []⟩) R s := by
  have O : Owns s.heap h₀ [] := .nil
  ktr_enter
  intro g L' h' ge hg0 gN F N X' T' l1
  replace F : Fr g L' h' (fun y => List.lookup y [(Str.ofString "tail", .ref t), (Str.ofString "root", .ref r), (Str.ofString "shift", .int 5 ts), (Str.ofString "count", .int n tn), (Str.ofString "cls", .ref 296)]) := F
  have ht' : g.IsList t vs.toArray := ht.at fun o e => ge _ o e (by simp)
  (try dsimp only)
  (try k_fold)
  k_steps
  (try dsimp only)
  have N9 := ‹News g L' _ _›
  have F9 := ‹Fr g L' _ _›
  exact hR _ _ _ _ _ (fun b o e => F9.keep b o (ge b o e (by simp))) (none_of (fun b o e => ge b o e (by simp)) (N9 _ (.head _)).2.2) (none_of (fun b o e => ge b o e (by simp)) (N9 _ (.tail _ (.head _))).2.2) (Nat.ne_of_lt (by assumption)) (N9 _ (.head _)).1 (N9 _ (.tail _ (.head _))).1
open PySem.Builtin
theorem args_oi (a b c d e : Value) : argsOk "object.__init__" ⟨[a, b, c, d, e], []⟩ := by unfold argsOk; kernel_rfl
theorem new_attr {prog : Program} {w : World} {A : Around} {E : Value → Shared → Prop} {s : Shared} {expr : Bool} {Q : Value → Shared → Prop} (X : (atop.heap_39 w.params).In s.heap)
    (h : Q (.ref 71) { s with toks := s.toks + 1 }) : wpAny (model prog w) A (getAttr (.ref 296) (Str.ofString "__new__") expr) Q E s := by
  have F : recIn (atop.heap_39 w.params) 297 "staticmethod" = some [.ref 71] := by k_is
  have hr : readsIn (atop.heap_39 w.params) 296 (.type "type") = true := by k_is
  have e : findCls (atop.heap_39 w.params) (.ref 296) (.type "type") (Str.ofString "__new__") = some (.get (.builtin "staticmethod.__get__") (.ref 297) .none (.ref 296)) := by k_is
  exact cls_bind X hr e (wpAny_call (sm_get (s := { s with toks := s.toks + 1 }) X F (handed_on rfl h)))
theorem cls_call {w : World} {mean : ExcName → Option Value} {mg mb : Str → Option Value} {h₀ : Heap} {s : Shared} {A : Around} {n : Int} {tn ts : Tok} {r t : Addr} {vs : List Value} {R : Result → Shared → Prop}
    (st : h₀.StaysIn s.heap) (X₀ : (atop.heap_39 w.params).In h₀) (T : TP mean mg mb h₀) (ht : s.heap.IsList t vs.toArray) (hz : vs.length ≤ 4000) (hd : A.depth < 980)
    (hR : ∀ x dx tk' h' tk, Ext s.heap h' → s.heap.get? x = none → s.heap.get? dx = none → @Ne Nat dx x → h'.get? x = some (vObj dx (.int n tn) (.ref r) (.int 5 ts) (.ref t) (.int (n - vs.length) tk')) → h'.get? dx = some (dictOf [] 0) → R (.ok (.ret (.ref x))) { s with heap := h', toks := tk }) :
    codeAny (model PW w) A (.call (.ref 296) ⟨[.int n tn, .int 5 ts, .ref r, .ref t], []⟩) R s := by
  have X := X₀.keeps st
  obtain ⟨oc, od, cd, sl, hC, e1, e2⟩ := cls_at X
  obtain ⟨hh, g, d, tk0, os⟩ := s
  dsimp only at st ht hR X hC
  have call := look_call (prog := PW) X
  have typ := look_type (prog := PW) X
  have hm := look_mro (prog := PW) X
  have made := look_made (prog := PW) X
  refine codeAny_of_tree ?_
  show wpAny _ _ (callAny (.ref 296) _) _ _ _
  refine nd_load hC ?_
  show wpAny _ _ (callAny.viaDunder (.ref 296) _) _ _ _
  unfold callAny.viaDunder
  refine wpAny_bind (call.at ?_)
  dsimp only
  rw [tc_bind]
  refine wpAny_bind (wpAny_pure (wpAny_bind (wpAny_pure ?_)))
  refine wpAny_pure (a := Fin.again (.call (.builtin "type.__call__") ⟨.ref 296 :: [.int n tn, .int 5 ts, .ref r, .ref t], []⟩)) (And.intro rfl ?_)
  refine codeAny_call_builtin_at (Code.quiet_builtin _ (by decide +kernel)) entry_typeCall (check_slot tc_kind tc_split typ (tc_args _ _ _) ?_)
  unfold Builtin.«type.__call__»
  repeat (first | (with_reducible refine new_attr X ?_) | with_reducible refine wpAny_call ?_ | lk)
  refine new_spec st X₀ T ht hz ?hd fun x dx tk' h' tk k n1 n2 n3 g1 g2 => ?_
  case hd =>
    have : (A.under (.builtin "type.__call__" ⟨.ref 296 :: [.int n tn, .int 5 ts, .ref r, .ref t], []⟩)).depth = A.depth + 1 := rfl
    omega
  have X' := X.keeps k
  have t1 : Looks (model PW w) h' (typeOf (.ref x)) (.ref 296) := (Looks.ld g1).andThen .now
  have s1 := look_self (prog := PW) X'
  have i1 := look_init (prog := PW) X'
  have b1 : Looks (model PW w) h' (bindSpecial (.builtin "object.__init__") (.ref x)) (.builtin "object.__init__", [.ref x]) := Looks.of_pure (oi_bind _)
  have m1 := look_made (prog := PW) X'
  have t2 : Looks (model PW w) h' (isInstance (.ref x) (.type "object")) true := t1.andThen (look_obj X')
  unfold isInstance callSpecial? specialOf
  repeat (first | with_reducible refine wpAny_call ?_ | lk)
  refine codeAny_call_builtin oi_plain entry_oi (@check_slot (model PW w) _ _ _ "object.__init__" "object" "__init__" (.ref x) [.int n tn, .int 5 ts, .ref r, .ref t] [] _ oi_kind oi_split t2 (args_oi _ _ _ _ _) ?_)
  unfold Builtin.«object.__init__»
  repeat lk
  exact hR x dx tk' h' tk k n1 n2 n3 g1 g2
theorem cls_N {w : World} {mean : ExcName → Option Value} {mg mb : Str → Option Value} {h₀ : Heap} {L : Addr} {m : Str → Option Value} {news : List (Addr × Obj)} {s : Shared} {A : Around} {n : Int} {tn ts : Tok} {r t : Addr} {vs : List Value} {Q E : Value → Shared → Prop}
    (F : Fr h₀ L s.heap m) (X₀ : (atop.heap_39 w.params).In h₀) (T : TP mean mg mb h₀) (N : News h₀ L s.heap news) (ht : s.heap.IsList t vs.toArray) (hz : vs.length ≤ 4000) (hd : A.depth < 980)
    (h : ∀ x dx tk' h' tk, Fr h₀ L h' m → News h₀ L h' ((x, vObj dx (.int n tn) (.ref r) (.int 5 ts) (.ref t) (.int (n - vs.length) tk')) :: (dx, dictOf [] 0) :: news) → (∀ p ∈ news, p.1 ≠ x) → (∀ p ∈ news, p.1 ≠ dx) → @Ne Nat dx x → Q (.ref x) { s with heap := h', toks := tk }) :
    wpAny (model PW w) A (call (.ref 296) [.int n tn, .int 5 ts, .ref r, .ref t]) Q E s := by
  refine wpAny_call (cls_call F.keep X₀ T ht hz hd fun x dx tk' h' tk k n1 n2 n3 g1 g2 => ?_)
  exact h x dx tk' h' tk (fr_ext F k) (news_add F (news_add F (news_ext N k) n2 g2) n1 g1) (news_ne N n1) (news_ne N n2) n3
end
section
open PySem PySem.W PyProof.Rows PySem.Calls
set_option maxHeartbeats 4000000
/-- the vector at x holds these items; G says what object stands where -/
inductive VecAt (G : Addr → Obj → Prop) (x : Addr) (items : List Value) : Prop
  | mk (dx r t : Addr) (ts tn tk : Tok) (rn un dn : Nat) (chunks : List (Addr × List Value × Nat)) (tail : List Value)
    (hx : G x (vObj dx (.int items.length tn) (.ref r) (.int 5 ts) (.ref t) (.int ((items.length : Int) - (tail.length : Int)) tk)))
    (hdx : G dx (dictOf [] dn)) (hr : G r (lObj (chunks.map fun c => .ref c.1) rn)) (hc : ∀ c ∈ chunks, G c.1 (lObj c.2.1 c.2.2) ∧ c.2.1.length = 32)
    (ht : G t (lObj tail un)) (h32 : tail.length ≤ 32) (he : items = chunks.flatMap (fun c => c.2.1) ++ tail)
theorem VecAt.mono {G G' : Addr → Obj → Prop} {x : Addr} {items : List Value} (k : ∀ a o, G a o → G' a o) (h : VecAt G x items) : VecAt G' x items := by
  obtain ⟨dx, r, t, ts, tn, tk, rn, un, dn, chunks, tail, hx, hdx, hr, hc, ht, h32, he⟩ := h
  exact .mk dx r t ts tn tk rn un dn chunks tail (k _ _ hx) (k _ _ hdx) (k _ _ hr) (fun c m => ⟨k _ _ (hc c m).1, (hc c m).2⟩) (k _ _ ht) h32 he
/-- what stands in a heap -/
abbrev Hp (h : Heap) : Addr → Obj → Prop := fun a o => h.get? a = some o
theorem inst_of {h : Heap} {x dx : Addr} {c r sh t o : Value} {dn : Nat} (hx : h.get? x = some (vObj dx c r sh t o)) (hdx : h.get? dx = some (dictOf [] dn)) : InstAt h x (vObj dx c r sh t o) 296 (some (dictOf [] dn)) := ⟨hx, rfl, rfl, hdx⟩
theorem isList_of {h : Heap} {l : Addr} {vs : List Value} {n : Nat} (e : h.get? l = some (lObj vs n)) : h.IsList l vs.toArray := ⟨_, e, rfl, n, rfl⟩
section
variable {prog : Program} {w : World} {A : Around} {E : Value → Shared → Prop} {s : Shared} {h₀ : Heap} {L D b : Addr} {m : Str → Option Value} {news : List (Addr × Obj)}
theorem extend_G {ys its2 : List Value} {n n2 : Nat} {nf : Nat → List (Addr × Obj)} {Q : Value → Shared → Prop} (F : Fr h₀ L s.heap m) (N : News h₀ L s.heap news) (U : ∀ n', Upd D (lObj ys n) (lObj (ys ++ its2) n') news (nf n'))
    (hb : s.heap.get? b = some (lObj its2 n2)) (hz : ys.length ≤ 8000) (hz2 : its2.length ≤ 8000) (h : ∀ h' n', Fr h₀ L h' m → News h₀ L h' (nf n') → Q .none { s with heap := h' }) :
    wpAny (model prog w) A (call (.builtin "list.extend") [.ref D, .ref b]) Q E s := by
  obtain ⟨pre, post, rfl, e0, a, c⟩ := (U 0).split
  refine extend_in F N a c hb (fun h' n' F' N' => h h' n' F' ?_) (by rw [List.size_toArray, sizeLine_eq]; omega)
  obtain ⟨pre', post', e1, e2, a', c'⟩ := (U n').split
  have e3 : ∀ (p q p' q' : List (Addr × Obj)) (x y : Obj), p ++ (D, x) :: q = p' ++ (D, y) :: q' → (∀ z ∈ p, z.1 ≠ D) → (∀ z ∈ p', z.1 ≠ D) → p = p' ∧ q = q' := by
    intro p
    induction p with
    | nil =>
      intro q p' q' x y e _ k'
      cases p' with
      | nil => simp only [List.nil_append, List.cons.injEq] at e; exact ⟨rfl, e.2⟩
      | cons z p' =>
        simp only [List.nil_append, List.cons_append, List.cons.injEq] at e
        exact absurd (congrArg Prod.fst e.1).symm (k' z (.head _))
    | cons z p ih =>
      intro q p' q' x y e k k'
      cases p' with
      | nil =>
        simp only [List.nil_append, List.cons_append, List.cons.injEq] at e
        exact absurd (congrArg Prod.fst e.1) (k z (.head _))
      | cons z' p' =>
        simp only [List.cons_append, List.cons.injEq] at e
        obtain ⟨i1, i2⟩ := ih q p' q' x y e.2 (fun u hu => k u (.tail _ hu)) fun u hu => k' u (.tail _ hu)
        exact ⟨by rw [e.1, i1], i2⟩
  obtain ⟨rfl, rfl⟩ := e3 _ _ _ _ _ _ e1 a a'
  rw [e2]
  have : (ys ++ its2.toArray.toList) = ys ++ its2 := by rw [List.toList_toArray]
  rw [this] at N'
  exact N'
end
end
section
open PySem PySem.W PyProof.Rows PySem.Calls
set_option maxHeartbeats 4000000
/-- own's addresses are none of the ledger's -/
def Apart (own news : List (Addr × Obj)) : Prop := ∀ p ∈ own, ∀ q ∈ news, p.1 ≠ q.1
/-- the end of a turn -/
def LEnd (h₀ : Heap) (L : Addr) (J : (Str → Option Value) → List (Addr × Obj) → Prop) (own : List (Addr × Obj)) (s₁ s₂ : Shared) : Prop :=
  ∃ h' tk m' nx, s₂ = { s₁ with heap := h', toks := tk } ∧ Fr h₀ L h' m' ∧ News h₀ L h' (nx ++ own) ∧ Apart own nx ∧ J m' nx
def LPost (h₀ : Heap) (L : Addr) (J : (Str → Option Value) → List (Addr × Obj) → Prop) (own : List (Addr × Obj)) (s₁ : Shared) (Q : Flow → Shared → Prop) (f : Flow) (s₂ : Shared) : Prop :=
  match f with
  | .ret v => Q (.ret v) s₂
  | .brk => Q .next s₂
  | _ => LEnd h₀ L J own s₁ s₂
section
variable {prog : Program} {w : World} {A : Around} {E : Value → Shared → Prop} {s : Shared} {env : Env} {h₀ : Heap} {x : Str} {body : List Stmt} {Q : Flow → Shared → Prop}
theorem loop_of_walks {I l : Addr} {fp : List Addr} {n : Nat} {P : Nat → Value → Prop} {St : Nat → Heap → Prop} {m₀ : Str → Option Value} {news : List (Addr × Obj)} (J : Nat → (Str → Option Value) → List (Addr × Obj) → Prop)
    (W : Walks prog w A I fp [I] n P St) (hfp : ∀ b ∈ fp, b = I ∨ b = l) (hL : env.locals ∉ fp) (hI : h₀.get? I = none) (hSt : ∀ i h, St i h → (∃ o, h.get? I = some o) ∧ ∃ o, h.get? l = some o) (hlf : l = I ∨ l ∈ fp) (hn : ∀ p ∈ news, p.1 ≠ I ∧ p.1 ≠ l) (st : St 0 s.heap)
    (F : Fr h₀ env.locals s.heap m₀) (N : News h₀ env.locals s.heap news) (hj : J 0 m₀ news)
    (turn : ∀ i v m₁ news₁ h tk own, i < n → P i v → J i m₁ news₁ → Apart own news₁ → Fr h₀ env.locals h (fun y => if y = x then some v else m₁ y) → News h₀ env.locals h (news₁ ++ own) →
      wpAny (model prog w) A (execs body env) (LPost h₀ env.locals (J (i + 1)) own { s with heap := h, toks := tk } Q) E { s with heap := h, toks := tk })
    (done : ∀ m₁ news₁ h tk, J n m₁ news₁ → Fr h₀ env.locals h m₁ → News h₀ env.locals h news₁ → Q .next { s with heap := h, toks := tk }) :
    LoopAtV prog w A h₀ env x body Q E (.ref I) s := by
  refine ⟨_, _, _, n, _, _, m₀, news, fun i m nx => J i m nx ∧ ∀ p ∈ nx, p.1 ≠ l, rfl, W, hL, ?_, ?_, st, F, N, ⟨hj, fun p hp => (hn p hp).2⟩, ?_, ?_⟩
  · intro b hb
    rw [List.mem_singleton.mp hb]; exact hI
  · intro p hp hm
    exact (hn p hp).1 (List.mem_singleton.mp hm)
  · rintro i v m₁ news₁ s₁ own ⟨hh', tk', rfl⟩ hin hP ⟨hJ, hl'⟩ hoff hown hget hfull hst F₁ N₁
    have hsep : Apart own news₁ := by
      intro p hp q hq e
      rcases hfp _ (hown p hp) with h1 | h1
      · exact hoff q hq (by rw [← e, h1]; exact List.mem_singleton.mpr rfl)
      · exact hl' q hq (by rw [← e, h1])
    obtain ⟨⟨oI, hoI⟩, ol, hol⟩ := hSt _ _ hst
    have hmI := hfull I (W.sub I (List.mem_singleton.mpr rfl)) hI oI hoI
    have N₂ : News h₀ env.locals hh' (news₁ ++ own) := fun p hp => N₁ p ((List.mem_append.mp hp).elim (fun h => List.mem_append.mpr (.inr h)) fun h => List.mem_append.mpr (.inl h))
    refine wpAny_mono (turn i v m₁ news₁ hh' tk' own hin hP hJ hsep F₁ N₂) (fun f s₂ p => ?_) fun _ _ e => e
    have fin : LEnd h₀ env.locals (J (i + 1)) own { s with heap := hh', toks := tk' } s₂ → LoopStepU h₀ env.locals [I] own (fun m nx => J (i + 1) m nx ∧ ∀ p ∈ nx, p.1 ≠ l) { s with heap := hh', toks := tk' } .next s₂ := by
      rintro ⟨h', tk, m', nx, e, F', N', ha, hm⟩
      refine ⟨rfl, h', tk, m', nx, e, F', fun p hp => N' p ((List.mem_append.mp hp).elim (fun h => List.mem_append.mpr (.inr h)) fun h => List.mem_append.mpr (.inl h)), fun p hp hq => ?_, hm, fun p hp hq => ?_⟩
      · exact ha _ hmI p hp (List.mem_singleton.mp hq).symm
      · rcases hlf with h1 | h1
        · exact ha _ hmI p hp (hq.trans h1).symm
        · cases q : h₀.get? l with
          | none => exact ha _ (hfull l h1 q ol hol) p hp hq.symm
          | some o =>
            have := (N' p (List.mem_append.mpr (.inl hp))).2.2
            rw [hq, q] at this; cases this
    cases f with
    | ret v => exact .ret p
    | brk => exact .brk p
    | next => exact .next (fin p)
    | cont => exact .cont (fin p)
  · rintro h' tk m' news' F' N' _ ⟨hJ, _⟩
    exact done m' news' h' tk hJ F' N'
theorem loop_list {l : Addr} {vs : List Value} {n : Nat} {m₀ : Str → Option Value} {news : List (Addr × Obj)} (J : Nat → (Str → Option Value) → List (Addr × Obj) → Prop)
    (hh : A.handled = none) (hl : s.heap.get? l = some (lObj vs n)) (hLl : env.locals ≠ l) (hn : ∀ p ∈ news, p.1 ≠ l) (F : Fr h₀ env.locals s.heap m₀) (N : News h₀ env.locals s.heap news) (hj : J 0 m₀ news)
    (turn : ∀ i v m₁ news₁ h tk own, vs[i]? = some v → J i m₁ news₁ → Apart own news₁ → Fr h₀ env.locals h (fun y => if y = x then some v else m₁ y) → News h₀ env.locals h (news₁ ++ own) →
      wpAny (model prog w) A (execs body env) (LPost h₀ env.locals (J (i + 1)) own { s with heap := h, toks := tk } Q) E { s with heap := h, toks := tk })
    (done : ∀ m₁ news₁ h tk, J vs.length m₁ news₁ → Fr h₀ env.locals h m₁ → News h₀ env.locals h news₁ → Q .next { s with heap := h, toks := tk }) :
    wpAny (model prog w) A (pyIter (.ref l)) (fun it s₂ => LoopAtV prog w A h₀ env x body Q E it s₂) E s := by
  have hls : s.heap.IsList l vs.toArray := isList_of hl
  have hlt := Heap.lt_size hl
  refine wpAny_pyIter_list hls ?_
  have W := Walks.list (prog := prog) (w := w) hh s.heap.objs.size l (Nat.ne_of_lt hlt) vs.toArray
  rw [show vs.toArray.size = vs.length from List.size_toArray] at W
  refine loop_of_walks (l := l) (m₀ := m₀) (news := news) J W (fun b hb => by simpa using hb) ?_ (next_is_new F) (fun i h st => ⟨let ⟨o, e, _⟩ := st.1; ⟨o, e⟩, let ⟨o, e, _⟩ := st.2; ⟨o, e⟩⟩) (.inr (by simp)) (fun p hp => ⟨Nat.ne_of_lt (Heap.lt_size (N p hp).1), hn p hp⟩)
    ⟨⟨_, Heap.get?_push_size _ rfl, rfl, rfl⟩, hls.at fun o e => Heap.get?_push_of_some _ e⟩ (F.push _) (fun p hp => ⟨Heap.get?_push_of_some _ (N p hp).1, (N p hp).2⟩) hj ?_ ?_
  · intro hm
    rcases List.mem_cons.mp hm with e | hm
    · exact absurd F.ns.lt (e ▸ Nat.lt_irrefl _)
    · exact hLl (List.mem_singleton.mp hm)
  · intro i v m₁ news₁ h tk own hi hP hJ ha F' N'
    exact turn i v m₁ news₁ h tk own (by simpa using hP) hJ ha F' N'
  · exact done
theorem loop_range {r : Addr} {a₀ b₀ : Int} {t₀ u₀ v₀ : Tok} {n : Nat} {m₀ : Str → Option Value} {news : List (Addr × Obj)} (J : Nat → (Str → Option Value) → List (Addr × Obj) → Prop)
    (hh : A.handled = none) (hr : IsRange s.heap r a₀ b₀ 1 t₀ u₀ v₀) (hsmall : Builtin.Range.small a₀ b₀ 1 = true) (hn : Builtin.Range.rangeSize a₀ b₀ 1 = (n : Int)) (F : Fr h₀ env.locals s.heap m₀) (N : News h₀ env.locals s.heap news) (hj : J 0 m₀ news)
    (turn : ∀ i t m₁ news₁ h tk own, i < n → J i m₁ news₁ → Apart own news₁ → Fr h₀ env.locals h (fun y => if y = x then some (.int (a₀ + (i : Int)) t) else m₁ y) → News h₀ env.locals h (news₁ ++ own) →
      wpAny (model prog w) A (execs body env) (LPost h₀ env.locals (J (i + 1)) own { s with heap := h, toks := tk } Q) E { s with heap := h, toks := tk })
    (done : ∀ m₁ news₁ h tk, J n m₁ news₁ → Fr h₀ env.locals h m₁ → News h₀ env.locals h news₁ → Q .next { s with heap := h, toks := tk }) :
    wpAny (model prog w) A (pyIter (.ref r)) (fun it s₂ => LoopAtV prog w A h₀ env x body Q E it s₂) E s := by
  refine wpAny_pyIter_range hr hsmall ?_
  have W := Walks.range (prog := prog) (w := w) hh s.heap.objs.size a₀ 1 n
  refine loop_of_walks (l := s.heap.objs.size) (m₀ := m₀) (news := news) J W (fun b hb => .inl (List.mem_singleton.mp hb)) ?_ (next_is_new F) (fun i h st => ⟨⟨_, st⟩, ⟨_, st⟩⟩) (.inl rfl) (fun p hp => ⟨Nat.ne_of_lt (Heap.lt_size (N p hp).1), Nat.ne_of_lt (Heap.lt_size (N p hp).1)⟩)
    (by show IsRangeIter _ _ _ _ _; rw [hn]; simpa using Heap.get?_push_size _ rfl) (F.push _) (fun p hp => ⟨Heap.get?_push_of_some _ (N p hp).1, (N p hp).2⟩) hj ?_ ?_
  · intro hm
    exact absurd F.ns.lt ((List.mem_singleton.mp hm) ▸ Nat.lt_irrefl _)
  · rintro i v m₁ news₁ h tk own hi ⟨t, rfl⟩ hJ ha F' N'
    rw [Int.mul_one] at F'
    exact turn i t m₁ news₁ h tk own hi hJ ha F' N'
  · exact done
end
theorem m_in (M : Str → Option Value) (x : Str) : M = fun y => if y = x then M x else M y := by
  funext y
  by_cases h : y = x
  · rw [if_pos h, h]
  · rw [if_neg h]
theorem m_again (M : Str → Option Value) (x : Str) (u v : Option Value) : (fun y => if y = x then v else (if y = x then u else M y)) = fun y => if y = x then v else M y := by
  funext y
  by_cases h : y = x
  · rw [if_pos h, if_pos h]
  · rw [if_neg h, if_neg h, if_neg h]
/-- all but what stands at S is kept -/
abbrev But (S : List Addr) (h h' : Heap) : Prop := ∀ b o, b ∉ S → h.get? b = some o → h'.get? b = some o
theorem fr_but {g h h' : Heap} {L : Addr} {m : Str → Option Value} {S : List Addr} (F : Fr g L h m) (hs : ∀ b ∈ S, g.get? b = none ∧ L ≠ b) (k : But S h h') : Fr g L h' m := by
  obtain ⟨oL, a1, a2, hL, a3⟩ := F.ns
  refine ⟨⟨oL, a1, a2, k _ _ (fun q => (hs _ q).2 rfl) hL, a3⟩, fun b o e => k _ _ (fun q => ?_) (F.keep b o e), F.above⟩
  have := (hs _ q).1
  rw [e] at this; cases this
theorem news_but {g h h' : Heap} {L : Addr} {news : List (Addr × Obj)} {S : List Addr} (N : News g L h news) (hs : ∀ p ∈ news, p.1 ∉ S) (k : But S h h') : News g L h' news := fun p hp => ⟨k _ _ (hs p hp) (N p hp).1, (N p hp).2⟩
theorem news_cons {g h : Heap} {L : Addr} {p : Addr × Obj} {news : List (Addr × Obj)} (e : h.get? p.1 = some p.2) (n : p.1 ≠ L ∧ g.get? p.1 = none) (N : News g L h news) : News g L h (p :: news) := by
  intro q hq
  rcases List.mem_cons.mp hq with rfl | hq
  · exact ⟨e, n⟩
  · exact N q hq
theorem LEnd.intro {h₀ h' : Heap} {L : Addr} {J : (Str → Option Value) → List (Addr × Obj) → Prop} {own nx : List (Addr × Obj)} {s₁ : Shared} {tk : Nat} {m' : Str → Option Value} (F : Fr h₀ L h' m') (N : News h₀ L h' (nx ++ own)) (ha : Apart own nx) (hj : J m' nx) :
    LEnd h₀ L J own s₁ { s₁ with heap := h', toks := tk } := ⟨h', tk, m', nx, rfl, F, N, ha, hj⟩
theorem ne_of_none {g : Heap} {a l : Addr} {o : Obj} (e : g.get? a = some o) (n : g.get? l = none) : @Ne Nat a l := fun q => by
  rw [show a = l from q, n] at e; cases e
theorem chunks_length {cs : List (Addr × List Value × Nat)} (h : ∀ c ∈ cs, c.2.1.length = 32) : (cs.flatMap fun c => c.2.1).length = 32 * cs.length := by
  induction cs with
  | nil => rfl
  | cons c cs ih =>
    rw [List.flatMap_cons, List.length_append, List.length_cons, h c (.head _), ih fun c hc => h c (.tail _ hc)]
    omega
end
section
local macro_rules | `(tactic| walk_at "call builtin:len") => `(tactic| (k_here; (with_reducible show wpAny _ _ (call (Value.builtin "len") [Value.ref _]) _ _ _); k_dflt (refine' call_len_list ?l ?z ?_; (case l => is_list); (case z => (simp only [List.size_toArray, List.length_cons, List.length_nil, List.length_append, List.length_map]; omega)); k_whole); (try simp only [List.size_toArray])))
local macro_rules | `(tactic| ktr_rel) => `(tactic| first | exact Fr.keep (by k_asm) _ _ (by assumption) | exact News.get (by k_asm) (by k_mem))
local macro_rules | `(tactic| walk_at "call builtin:list.extend") => `(tactic| (k_here; (with_reducible show wpAny _ _ (call (Value.builtin _) [Value.ref _, Value.ref _]) _ _ _); k_dflt (refine' extend_G ?F ?N ?U ?b ?z ?z2 ?_; (case F => k_asm); (case N => k_asm); (case b => ktr_rel); (case U => intro _; k_upd); (case z => ((try simp only [List.length_append, List.length_cons, List.length_nil]); omega)); (case z2 => ((try simp only [List.length_append, List.length_cons, List.length_nil]); omega)); k_whole); intro h' n' F' N'; (try dsimp only at N'); (try k_sweep)))
section
open PySem PySem.W PyProof.Rows PySem.Calls
set_option maxHeartbeats 4000000
theorem fresh_Fill : True := by w_top off; trivial
theorem fill0_spec {w : World} {mean : ExcName → Option Value} {mg mb : Str → Option Value} {h₀ : Heap} {s : Shared} {A : Around} {x c l : Addr} {tk : Tok} {vs cvs : List Value} {n cn : Nat} {R : Result → Shared → Prop}
    (st : h₀.StaysIn s.heap) (X : (atop.heap_39 w.params).In h₀) (T : TP mean mg mb h₀) (O : Owns s.heap h₀ [(l, lObj vs n)]) (hc : s.heap.get? c = some (lObj cvs cn)) (hne : @Ne Nat c l) (hz : vs.length ≤ 4000) (hz' : cvs.length ≤ 4000) (hd : A.depth < 990)
    (hR : ∀ h' tk n', But [l] s.heap h' → h'.get? l = some (lObj (vs ++ cvs) n') → R (.ok (.ret .none)) { s with heap := h', toks := tk }) :
    codeAny (model PW w) A (.call (.ref 169) ⟨[.ref x, .ref c, .int 0 tk, .ref l], []⟩) R s := by
  ktr_enter
  intro g L' h' ge hg0 gN F N X' T' l1
  replace F : Fr g L' h' (fun y => List.lookup y [(Str.ofString "the_list", .ref l), (Str.ofString "shift", .int 0 tk), (Str.ofString "node", .ref c), (Str.ofString "self", .ref x)]) := F
  have hc' : g.get? c = some (lObj cvs cn) := ge _ _ hc (by simpa using hne)
  (try dsimp only)
  (try k_fold)
  k_steps
  (try dsimp only)
  have N9 := ‹News g L' _ _›
  have F9 := ‹Fr g L' _ _›
  exact hR _ _ _ (fun b o ne e => F9.keep b o (ge b o e ne)) (N9 _ (.head _)).1
end
section
open PySem PySem.W PyProof.Rows PySem.Calls
set_option maxHeartbeats 4000000
theorem fresh_Fill5 : True := by w_top off; trivial
abbrev fillM (x r l : Addr) (tk tk' : Tok) : Str → Option Value := fun y => if y = Str.ofString "shift" then some (Value.int 0 tk') else List.lookup y [(Str.ofString "the_list", .ref l), (Str.ofString "shift", .int 5 tk), (Str.ofString "node", .ref r), (Str.ofString "self", .ref x)]
theorem fill5_spec {w : World} {mean : ExcName → Option Value} {mg mb : Str → Option Value} {h₀ : Heap} {s : Shared} {A : Around} {x r l : Addr} {tS : Tok} {vs : List Value} {n rn : Nat} {chunks : List (Addr × List Value × Nat)} {R : Result → Shared → Prop}
    (st : h₀.StaysIn s.heap) (X : (atop.heap_39 w.params).In h₀) (T : TP mean mg mb h₀) (O : Owns s.heap h₀ [(l, lObj vs n)]) (hr : s.heap.get? r = some (lObj (chunks.map fun c => .ref c.1) rn))
    (hc : ∀ c ∈ chunks, s.heap.get? c.1 = some (lObj c.2.1 c.2.2) ∧ c.2.1.length = 32 ∧ @Ne Nat c.1 l) (hne : @Ne Nat r l) (hz : vs.length + 32 * chunks.length ≤ 3000) (hd : A.depth < 980) (hh : A.handled = none)
    {dx : Addr} {a1 a2 a3 a4 a5 : Value} {dn : Nat} (I : InstAt s.heap x (vObj dx a1 a2 a3 a4 a5) 296 (some (dictOf [] dn))) (hxl : @Ne Nat x l) (hdl : @Ne Nat dx l)
    (hR : ∀ h' tk n', But [l] s.heap h' → h'.get? l = some (lObj (vs ++ chunks.flatMap fun c => c.2.1) n') → R (.ok (.ret .none)) { s with heap := h', toks := tk }) :
    codeAny (model PW w) A (.call (.ref 169) ⟨[.ref x, .ref r, .int 5 tS, .ref l], []⟩) R s := by
  ktr_enter
  intro g L' h' ge hg0 gN F N X' T' l1
  replace F : Fr g L' h' (fun y => List.lookup y [(Str.ofString "the_list", .ref l), (Str.ofString "shift", .int 5 tS), (Str.ofString "node", .ref r), (Str.ofString "self", .ref x)]) := F
  have hr' : g.get? r = some (lObj (chunks.map fun c => .ref c.1) rn) := ge _ _ hr (by simpa using hne)
  have hr2 : g.IsList r (chunks.map fun c => Value.ref c.1).toArray := isList_of hr'
  have I' : InstAt g x (vObj dx a1 a2 a3 a4 a5) 296 (some (dictOf [] dn)) := inst_of (ge _ _ I.at_ (by simpa using hxl)) (ge _ _ I.dict (by simpa using hdl))
  (try dsimp only)
  (try k_fold)
  k_steps
  refine For_invV g (by rfl) (by rfl) ?_ (by intro _; rfl) ?hE
  case hE => passes_own
  k_steps
  have F1 : Fr g L' _ (fillM x r l tS tk) := ‹Fr g L' _ _›
  have N1 := ‹News g L' _ _›
  have hl0 : g.get? l = none := (N1 _ (.head _)).2.2
  have hlL : l ≠ L' := (N1 _ (.head _)).2.1
  refine loop_list (J := fun i m nx => (∃ u, m = fun y => if y = Str.ofString "n" then u else fillM x r l tS tk y) ∧ ∃ n', nx = [(l, lObj (vs ++ (chunks.take i).flatMap fun c => c.2.1) n')]) hh (F1.keep _ _ hr') ?_ ?_ F1 N1 ⟨⟨_, m_in _ _⟩, n, by simp⟩ ?_ ?_
  · intro q; rw [show L' = r from q] at F1; exact absurd (Heap.lt_size hr') (Nat.not_lt.mpr F1.above)
  · intro p hp; rw [List.mem_singleton.mp hp]; exact fun q => hne q.symm
  · rintro i v m₁ news₁ h1 tk1 own hi ⟨⟨u, rfl⟩, n1, rfl⟩ ha F2 N2
    rw [m_again] at F2
    simp only [List.cons_append, List.nil_append] at N2
    rw [List.getElem?_map] at hi
    obtain ⟨c, hci, rfl⟩ := Option.map_eq_some_iff.mp hi
    have hcm := List.mem_of_getElem? hci
    obtain ⟨c1, c2, c3⟩ := hc c hcm
    have c1' : g.get? c.1 = some (lObj c.2.1 c.2.2) := ge _ _ c1 (by simpa using c3)
    clear F1 N1
    replace F2 : Fr g L' h1 (fun y => if y = Str.ofString "n" then some (Value.ref c.1) else fillM x r l tS tk y) := F2
    have hlen : ((chunks.take i).flatMap fun c => c.2.1).length ≤ 32 * chunks.length := by
      have : ∀ cs : List (Addr × List Value × Nat), (∀ c ∈ cs, c ∈ chunks) → (cs.flatMap fun c => c.2.1).length = 32 * cs.length := by
        intro cs
        induction cs with
        | nil => intro _; rfl
        | cons c cs ih =>
          intro hm
          rw [List.flatMap_cons, List.length_append, List.length_cons, (hc c (hm c (.head _))).2.1, ih fun c hc => hm c (.tail _ hc)]
          omega
      rw [this _ fun c hc => List.mem_of_mem_take hc, List.length_take]
      omega
    k_steps
    refine wpAny_call (fill0_spec (vs := vs ++ (chunks.take i).flatMap fun c => c.2.1) (n := n1) (fun b o e => F2.keep b o (hg0 b o e)) X T ?O (F2.keep _ _ c1') c3 ?z1 ?z2 (by k_room) ?_)
    case O =>
      intro q hq
      rw [List.mem_singleton.mp hq]
      exact ⟨(N2 _ (.head _)).1, none_of hg0 hl0⟩
    case z1 => rw [List.length_append]; omega
    case z2 => omega
    intro h2 tk2 n2 k2 e2
    have F3 : Fr g L' h2 (fun y => if y = Str.ofString "n" then some (Value.ref c.1) else fillM x r l tS tk y) := fr_but F2 (fun b hb => by rw [List.mem_singleton.mp hb]; exact ⟨hl0, hlL.symm⟩) k2
    have N3 : News g L' h2 ((l, lObj ((vs ++ (chunks.take i).flatMap fun c => c.2.1) ++ c.2.1) n2) :: own) :=
      news_cons e2 ⟨hlL, hl0⟩ (news_but (fun p hp => N2 p (.tail _ hp)) (fun p hp => by
        rw [List.mem_singleton]; exact ha p hp _ (.head _)) k2)
    clear F2 N2
    (try dsimp only)
    k_steps
    (try dsimp only)
    refine LEnd.intro F3 (nx := [_]) N3 (fun p hp q hq => by rw [List.mem_singleton.mp hq]; have z := ha p hp _ (.head _); exact z) ⟨⟨_, rfl⟩, n2, ?_⟩
    rw [List.take_add_one, hci, List.flatMap_append, List.append_assoc]
    simp
  · rintro m₁ news₁ h1 tk1 ⟨⟨u, rfl⟩, n1, rfl⟩ F2 N2
    clear F1 N1
    replace F2 : Fr g L' h1 (fun y => if y = Str.ofString "n" then u else fillM x r l tS tk y) := F2
    (try dsimp only)
    k_steps
    (try dsimp only)
    have e : chunks.take (chunks.map fun c => Value.ref c.1).length = chunks := by rw [List.length_map, List.take_length]
    rw [e] at N2
    exact hR _ _ _ (fun b o ne e => F2.keep b o (ge b o e ne)) (N2 _ (.head _)).1
end
section
open PySem PySem.W PyProof.Rows PySem.Calls
set_option maxHeartbeats 4000000
theorem fresh_Tolist : True := by w_top off; trivial
theorem tolist_spec {w : World} {mean : ExcName → Option Value} {mg mb : Str → Option Value} {h₀ : Heap} {s : Shared} {A : Around} {x : Addr} {items : List Value} {R : Result → Shared → Prop}
    (st : h₀.StaysIn s.heap) (X : (atop.heap_39 w.params).In h₀) (T : TP mean mg mb h₀) (V : VecAt (Hp s.heap) x items) (hz : items.length ≤ 1500) (hd : A.depth < 960) (hh : A.handled = none)
    (hR : ∀ l n h' tk, Ext s.heap h' → s.heap.get? l = none → h'.get? l = some (lObj items n) → R (.ok (.ret (.ref l))) { s with heap := h', toks := tk }) :
    codeAny (model PW w) A (.call (.ref 176) ⟨[.ref x], []⟩) R s := by
  have O : Owns s.heap h₀ [] := .nil
  obtain ⟨dx, r, t, tS, tn, tO, rn, un, dn, chunks, tail, hx, hdx, hr, hc, ht, h32, he⟩ := V
  ktr_enter
  intro g L' h' ge hg0 gN F N X' T' l1
  replace F : Fr g L' h' (fun y => List.lookup y [(Str.ofString "self", .ref x)]) := F
  have ge' : Ext s.heap g := fun b o e => ge b o e (by simp)
  have I' := inst_of (ge' _ _ hx) (ge' _ _ hdx)
  have hr' := ge' _ _ hr
  have ht' := ge' _ _ ht
  (try dsimp only)
  (try k_fold)
  k_steps
  rename_i l _ _ _ _ _
  have F1 := ‹Fr g L' _ _›
  have N1 := ‹News g L' _ _›
  have hl0 : g.get? l = none := (N1 _ (.head _)).2.2
  have hlL : l ≠ L' := (N1 _ (.head _)).2.1
  have hlen : 32 * chunks.length + tail.length = items.length := by
    rw [he, List.length_append, chunks_length fun c hc' => (hc c hc').2]
  refine wpAny_call (fill5_spec (vs := []) (n := 0) (fun b o e => F1.keep b o (hg0 b o e)) X T ?O (F1.keep _ _ hr') (fun c hc' => ⟨F1.keep _ _ (ge' _ _ (hc c hc').1), (hc c hc').2, ne_of_none (ge' _ _ (hc c hc').1) hl0⟩) (ne_of_none hr' hl0) ?z (by k_room) hh
    (inst_keeps I' F1.keep) (ne_of_none I'.at_ hl0) (ne_of_none I'.dict hl0) ?_)
  case O =>
    intro q hq
    rw [List.mem_singleton.mp hq]
    exact ⟨(N1 _ (.head _)).1, none_of hg0 hl0⟩
  case z => rw [List.length_nil]; omega
  intro h2 tk2 n2 k2 e2
  have F3 := fr_but F1 (fun b hb => by rw [List.mem_singleton.mp hb]; exact ⟨hl0, hlL.symm⟩) k2
  have N3 : News g L' h2 [(l, lObj ([] ++ chunks.flatMap fun c => c.2.1) n2)] := news_cons e2 ⟨hlL, hl0⟩ .nil
  rw [List.nil_append] at N3
  have hcl := chunks_length fun c hc' => (hc c hc').2
  clear F1 N1
  (try dsimp only)
  k_steps
  (try dsimp only)
  have N9 := ‹News g L' _ _›
  have F9 := ‹Fr g L' _ _›
  rw [← he] at N9
  exact hR _ _ _ _ (fun b o e => F9.keep b o (ge' b o e)) (none_of ge' hl0) (N9 _ (.head _)).1
theorem cls_NA {w : World} {mean : ExcName → Option Value} {mg mb : Str → Option Value} {h₀ : Heap} {L : Addr} {m : Str → Option Value} {news : List (Addr × Obj)} {s : Shared} {A : Around} {n : Int} {tn ts : Tok} {r t : Addr} {vs : Array Value} {Q E : Value → Shared → Prop}
    (F : Fr h₀ L s.heap m) (X₀ : (atop.heap_39 w.params).In h₀) (T : TP mean mg mb h₀) (N : News h₀ L s.heap news) (ht : s.heap.IsList t vs) (hz : vs.size ≤ 4000) (hd : A.depth < 980)
    (h : ∀ x dx tk' h' tk, Fr h₀ L h' m → News h₀ L h' ((x, vObj dx (.int n tn) (.ref r) (.int 5 ts) (.ref t) (.int (n - vs.size) tk')) :: (dx, dictOf [] 0) :: news) → (∀ p ∈ news, p.1 ≠ x) → (∀ p ∈ news, p.1 ≠ dx) → @Ne Nat dx x → Q (.ref x) { s with heap := h', toks := tk }) :
    wpAny (model PW w) A (call (.ref 296) [.int n tn, .int 5 ts, .ref r, .ref t]) Q E s := by
  obtain ⟨vs⟩ := vs
  exact cls_N F X₀ T N ht hz hd h
end
section
open PySem PySem.W PyProof.Rows PySem.Calls
set_option maxHeartbeats 4000000
theorem fresh_PushTail : True := by w_top off; trivial
theorem push_spec {w : World} {mean : ExcName → Option Value} {mg mb : Str → Option Value} {h₀ : Heap} {s : Shared} {A : Around} {x r t : Addr} {tS : Tok} {cs : List Value} {rn : Nat} {R : Result → Shared → Prop}
    (st : h₀.StaysIn s.heap) (X : (atop.heap_39 w.params).In h₀) (T : TP mean mg mb h₀) (hr : s.heap.get? r = some (lObj cs rn)) (hz : cs.length ≤ 900) (hd : A.depth < 980) (hh : A.handled = none)
    (hR : ∀ q n h' tk, Ext s.heap h' → s.heap.get? q = none → h'.get? q = some (lObj (cs ++ [.ref t]) n) → R (.ok (.ret (.ref q))) { s with heap := h', toks := tk }) :
    codeAny (model PW w) A (.call (.ref 263) ⟨[.ref x, .int 5 tS, .ref r, .ref t], []⟩) R s := by
  have O : Owns s.heap h₀ [] := .nil
  ktr_enter
  intro g L' h' ge hg0 gN F N X' T' l1
  replace F : Fr g L' h' (fun y => List.lookup y [(Str.ofString "tail_node", .ref t), (Str.ofString "parent", .ref r), (Str.ofString "level", .int 5 tS), (Str.ofString "self", .ref x)]) := F
  have ge' : Ext s.heap g := fun b o e => ge b o e (by simp)
  have hr' := ge' _ _ hr
  have hrl : g.IsList r cs.toArray := isList_of hr'
  (try dsimp only)
  (try k_fold)
  k_steps
  (try dsimp only)
  have N9 := ‹News g L' _ _›
  have F9 := ‹Fr g L' _ _›
  simp only [List.push_toArray] at N9
  exact hR _ _ _ _ (fun b o e => F9.keep b o (ge' b o e)) (none_of ge' (N9 _ (.head _)).2.2) (N9 _ (.head _)).1
theorem push_N {w : World} {mean : ExcName → Option Value} {mg mb : Str → Option Value} {h₀ : Heap} {L : Addr} {m : Str → Option Value} {news : List (Addr × Obj)} {s : Shared} {A : Around} {x r t : Addr} {tS : Tok} {cs : List Value} {rn : Nat} {Q E : Value → Shared → Prop}
    (F : Fr h₀ L s.heap m) (X₀ : (atop.heap_39 w.params).In h₀) (T : TP mean mg mb h₀) (N : News h₀ L s.heap news) (hr : s.heap.get? r = some (lObj cs rn)) (hz : cs.length ≤ 900) (hd : A.depth < 980) (hh : A.handled = none)
    (h : ∀ q n h' tk, Fr h₀ L h' m → News h₀ L h' ((q, lObj (cs ++ [.ref t]) n) :: news) → (∀ p ∈ news, p.1 ≠ q) → Q (.ref q) { s with heap := h', toks := tk }) :
    wpAny (model PW w) A (call (.ref 263) [.ref x, .int 5 tS, .ref r, .ref t]) Q E s :=
  wpAny_call (push_spec F.keep X₀ T hr hz hd hh fun q n h' tk k n1 g1 => h q n h' tk (fr_ext F k) (news_add F (news_ext N k) n1 g1) (news_ne N n1))
end
section
open PySem PySem.W PyProof.Rows PySem.Calls
set_option maxHeartbeats 4000000
theorem fresh_Cnr : True := by w_top off; trivial
local macro_rules | `(tactic| walk_at "call ref") => `(tactic| (k_here; k_dflt (refine' push_N ?F ?X ?T ?N ?r ?z ?d ?hh ?_; (case F => k_asm); (case X => k_asm); (case T => k_asm); (case N => k_asm); (case r => ktr_rel); (case z => ((try simp only [List.length_append, List.length_cons, List.length_nil, List.length_map]); omega)); (case d => k_room); (case hh => assumption); k_whole); intro q' n' h' tk2' F' N' l1; (try (replace l1 := allNe_of l1; simp only [AllNe, and_true] at l1)); (try k_sweep)))
theorem cnr_spec {w : World} {mean : ExcName → Option Value} {mg mb : Str → Option Value} {h₀ : Heap} {s : Shared} {A : Around} {x dx r t : Addr} {tS tn : Tok} {n : Int} {o : Value} {dn : Nat} {cs : List Value} {rn : Nat} {R : Result → Shared → Prop}
    (st : h₀.StaysIn s.heap) (X : (atop.heap_39 w.params).In h₀) (T : TP mean mg mb h₀) (I : InstAt s.heap x (vObj dx (.int n tn) (.ref r) (.int 5 tS) (.ref t) o) 296 (some (dictOf [] dn)))
    (hr : s.heap.get? r = some (lObj cs rn)) (hz : cs.length ≤ 900) (hn : 0 ≤ n) (hn2 : n < 1056) (hd : A.depth < 970) (hh : A.handled = none)
    (hR : ∀ q r' rn' h' tk, Ext s.heap h' → s.heap.get? r' = none → h'.get? r' = some (lObj (cs ++ [.ref t]) rn') → s.heap.get? q = none → @Ne Nat q r' → h'.get? q = some { cls := .type "tuple", data := .seq #[.ref r', .int 5 tS] 0 } → R (.ok (.ret (.ref q))) { s with heap := h', toks := tk }) :
    codeAny (model PW w) A (.call (.ref 214) ⟨[.ref x], []⟩) R s := by
  have O : Owns s.heap h₀ [] := .nil
  ktr_enter
  intro g L' h' ge hg0 gN F N X' T' l1
  replace F : Fr g L' h' (fun y => List.lookup y [(Str.ofString "self", .ref x)]) := F
  have ge' : Ext s.heap g := fun b o e => ge b o e (by simp)
  have hr' := ge' _ _ hr
  have hrl : g.IsList r cs.toArray := isList_of hr'
  have I' := inst_keeps I ge'
  (try dsimp only)
  (try k_fold)
  k_steps
  all_goals (try (exfalso; (rename 1 * 2 ^ Int.toNat 5 < Int.fdiv n (2 ^ Int.toNat 5) => hb); (have e5 : (2 : Int) ^ Int.toNat 5 = 32 := by decide); rw [e5, Int.fdiv_eq_ediv_of_nonneg _ (by decide)] at hb; omega))
  (try dsimp only)
  have N9 := ‹News g L' _ _›
  have F9 := ‹Fr g L' _ _›
  exact hR _ _ _ _ _ (fun b o e => F9.keep b o (ge' b o e)) (none_of ge' (N9 _ (.tail _ (.head _))).2.2) (N9 _ (.tail _ (.head _))).1 (none_of ge' (N9 _ (.head _)).2.2) (Nat.ne_of_gt (by assumption)) (N9 _ (.head _)).1
theorem cnr_N {w : World} {mean : ExcName → Option Value} {mg mb : Str → Option Value} {h₀ : Heap} {L : Addr} {m : Str → Option Value} {news : List (Addr × Obj)} {s : Shared} {A : Around} {x dx r t : Addr} {tS tn : Tok} {n : Int} {o : Value} {dn : Nat} {cs : List Value} {rn : Nat} {Q E : Value → Shared → Prop}
    (F : Fr h₀ L s.heap m) (X₀ : (atop.heap_39 w.params).In h₀) (T : TP mean mg mb h₀) (N : News h₀ L s.heap news) (I : InstAt s.heap x (vObj dx (.int n tn) (.ref r) (.int 5 tS) (.ref t) o) 296 (some (dictOf [] dn)))
    (hr : s.heap.get? r = some (lObj cs rn)) (hz : cs.length ≤ 900) (hn : 0 ≤ n) (hn2 : n < 1056) (hd : A.depth < 970) (hh : A.handled = none)
    (h : ∀ q r' rn' h' tk, Fr h₀ L h' m → News h₀ L h' ((q, { cls := .type "tuple", data := .seq #[.ref r', .int 5 tS] 0 }) :: (r', lObj (cs ++ [.ref t]) rn') :: news) → (∀ p ∈ news, p.1 ≠ q) → (∀ p ∈ news, p.1 ≠ r') → @Ne Nat q r' → Q (.ref q) { s with heap := h', toks := tk }) :
    wpAny (model PW w) A (call (.ref 214) [.ref x]) Q E s :=
  wpAny_call (cnr_spec F.keep X₀ T I hr hz hn hn2 hd hh fun q r' rn' h' tk k n1 g1 n2 n3 g2 => h q r' rn' h' tk (fr_ext F k) (news_add F (news_add F (news_ext N k) n1 g1) n2 g2) (news_ne N n2) (news_ne N n1) n3)
theorem VecAt.of {G : Addr → Obj → Prop} {x : Addr} {items : List Value} {dx r t : Addr} {ts tn tk : Tok} {rn un dn : Nat} {n off : Int} (chunks : List (Addr × List Value × Nat)) (tail : List Value)
    (hx : G x (vObj dx (.int n tn) (.ref r) (.int 5 ts) (.ref t) (.int off tk))) (hdx : G dx (dictOf [] dn)) (hr : G r (lObj (chunks.map fun c => .ref c.1) rn)) (ht : G t (lObj tail un)) (hn : n = (items.length : Int)) (ho : off = (items.length : Int) - (tail.length : Int))
    (hc : ∀ c ∈ chunks, G c.1 (lObj c.2.1 c.2.2) ∧ c.2.1.length = 32) (h32 : tail.length ≤ 32) (he : items = chunks.flatMap (fun c => c.2.1) ++ tail) : VecAt G x items := by
  subst hn ho
  exact .mk dx r t ts tn tk rn un dn chunks tail hx hdx hr hc ht h32 he
end
section
open PySem PySem.W PyProof.Rows PySem.Calls
set_option maxHeartbeats 4000000
theorem fresh_Append : True := by w_top off; trivial
local macro_rules | `(tactic| walk_at "assign Tuple") => `(tactic| (k_here; (with_reducible show wpAny _ _ (assign (Expr.Tuple _ _ _) _ (Value.ref _)) _ _ _); k_dflt (refine' unpackN_ ?F ?N ?T ?k1 ?k2 ?k3 ?_; (case F => k_asm); (case N => k_asm); (case T => refine News.isTup (by k_asm) (by k_mem)); (case k1 => assumption); (case k2 => exact rfl); (case k3 => exact rfl); k_whole); intro h' F' N'; (try k_sweep)))
local macro_rules | `(tactic| walk_at "call ref") => `(tactic| (k_here; k_dflt (refine' cls_NA ?F ?X ?T ?N ?t ?z ?d ?_; (case F => k_asm); (case X => k_asm); (case T => k_asm); (case N => k_asm); (case t => is_list); (case z => ((try simp only [Array.size_push, List.size_toArray, List.length_append, List.length_cons, List.length_nil]); omega)); (case d => k_room); k_whole); intro x' d' tk' h' tk2' F' N' l1 l2 l3; (try (replace l1 := allNe_of l1; simp only [AllNe, and_true] at l1)); (try (replace l2 := allNe_of l2; simp only [AllNe, and_true] at l2)); (try k_sweep)))
local macro_rules | `(tactic| walk_at "call ref") => `(tactic| (k_here; k_dflt (refine' cnr_N ?F ?X ?T ?N ?i ?r ?z ?n1 ?n2 ?d ?hh ?_; (case F => k_asm); (case X => k_asm); (case T => k_asm); (case N => k_asm); (case i => k_inst); (case r => ktr_rel); (case z => ((try simp only [List.length_append, List.length_cons, List.length_nil, List.length_map]); omega)); (case n1 => omega); (case n2 => omega); (case d => k_room); (case hh => assumption); k_whole); intro q' r' n' h' tk2' F' N' l1 l2 l3; (try (replace l1 := allNe_of l1; simp only [AllNe, and_true] at l1)); (try (replace l2 := allNe_of l2; simp only [AllNe, and_true] at l2)); (try k_sweep)))
theorem append_spec {w : World} {mean : ExcName → Option Value} {mg mb : Str → Option Value} {h₀ : Heap} {s : Shared} {A : Around} {x : Addr} {v : Value} {items : List Value} {G : Addr → Obj → Prop} {R : Result → Shared → Prop}
    (st : h₀.StaysIn s.heap) (X : (atop.heap_39 w.params).In h₀) (T : TP mean mg mb h₀) (hG : ∀ a o, G a o → s.heap.get? a = some o) (V : VecAt G x items) (hz : items.length ≤ 900) (hd : A.depth < 960) (hh : A.handled = none)
    (hR : ∀ (y : Addr) (tl : List (Addr × Obj)) h' tk, Ext s.heap h' → (∀ p ∈ tl, s.heap.get? p.1 = none ∧ h'.get? p.1 = some p.2) → VecAt (fun a o => (a, o) ∈ tl ∨ G a o) y (items ++ [v]) → R (.ok (.ret (.ref y))) { s with heap := h', toks := tk }) :
    codeAny (model PW w) A (.call (.ref 221) ⟨[.ref x, v], []⟩) R s := by
  have O : Owns s.heap h₀ [] := .nil
  obtain ⟨dx, r, t, tS, tn, tO, rn, un, dn, chunks, tail, hx, hdx, hr, hc, ht, h32, he⟩ := V
  ktr_enter
  intro g L' h' ge hg0 gN F N X' T' l1
  replace F : Fr g L' h' (fun y => List.lookup y [(Str.ofString "val", v), (Str.ofString "self", .ref x)]) := F
  have ge' : Ext s.heap g := fun b o e => ge b o e (by simp)
  have I' := inst_of (ge' _ _ (hG _ _ hx)) (ge' _ _ (hG _ _ hdx))
  have hr' := ge' _ _ (hG _ _ hr)
  have ht' := ge' _ _ (hG _ _ ht)
  have htl : g.IsList t tail.toArray := isList_of ht'
  have hlen : 32 * chunks.length + tail.length = items.length := by
    rw [he, List.length_append, chunks_length fun c hc' => (hc c hc').2]
  (try dsimp only)
  (try k_fold)
  k_steps
  · have N9 := ‹News g L' _ _›
    have F9 := ‹Fr g L' _ _›
    simp only [List.push_toArray, List.size_toArray] at N9
    have e1 : ((items ++ [v]).length : Int) = (items.length : Int) + 1 := by rw [List.length_append]; rfl
    refine hR _ _ _ _ (fun b o e => F9.keep b o (ge' b o e)) (fun p hp => ⟨none_of ge' (N9 p hp).2.2, (N9 p hp).1⟩) ?_
    exact VecAt.of chunks (tail ++ [v]) (.inl (.head _)) (.inl (.tail _ (.head _))) (.inr hr) (.inl (.tail _ (.tail _ (.head _)))) e1.symm (by rw [e1]) (fun c hc' => ⟨.inr (hc c hc').1, (hc c hc').2⟩) (by rw [List.length_append]; show tail.length + 1 ≤ 32; omega) (by rw [he, List.append_assoc])
  · have N9 := ‹News g L' _ _›
    have F9 := ‹Fr g L' _ _›
    have e1 : ((items ++ [v]).length : Int) = (items.length : Int) + 1 := by rw [List.length_append]; rfl
    refine hR _ _ _ _ (fun b o e => F9.keep b o (ge' b o e)) (fun p hp => ⟨none_of ge' (N9 p hp).2.2, (N9 p hp).1⟩) ?_
    refine VecAt.of (chunks ++ [(t, tail, un)]) [v] (.inl (.head _)) (.inl (.tail _ (.head _))) (by rw [List.map_append]; exact .inl (.tail _ (.tail _ (.tail _ (.tail _ (.head _)))))) (.inl (.tail _ (.tail _ (.head _)))) e1.symm (by rw [e1]; rfl) (fun c hc' => ?_) (by show 1 ≤ 32; omega) (by rw [he, List.flatMap_append]; simp)
    rcases List.mem_append.mp hc' with h | h
    · exact ⟨.inr (hc c h).1, (hc c h).2⟩
    · rw [List.mem_singleton.mp h]
      exact ⟨.inr ht, by show tail.length = 32; omega⟩
end
end
section
open PySem PySem.W PyProof.Rows PySem.Calls
set_option maxHeartbeats 4000000
theorem pick_mid (l : List Value) {a b : Int} (h0 : 0 ≤ a) (hab : a ≤ b) : slicePick l.toArray (some a) (some b) none = ((l.drop a.toNat).take (b - a).toNat).toArray := by
  obtain ⟨a', rfl⟩ := Int.eq_ofNat_of_zero_le h0
  obtain ⟨b', rfl⟩ := Int.eq_ofNat_of_zero_le (Int.le_trans h0 hab)
  have hab' : a' ≤ b' := by omega
  rw [slicePick_plain]
  simp only [Option.elim]
  rw [clipAt_nat, clipAt_nat, List.size_toArray]
  congr 1
  rw [Int.toNat_natCast, show ((b' : Int) - (a' : Int)).toNat = b' - a' by omega]
  rcases Nat.le_total a' l.length with h | h
  · rw [Nat.min_eq_left h]
    rcases Nat.le_total b' l.length with k | k
    · rw [Nat.min_eq_left k]
    · rw [Nat.min_eq_right k, List.take_of_length_le (by rw [List.length_drop]; exact Nat.le_refl _), List.take_of_length_le (by rw [List.length_drop]; omega)]
  · rw [Nat.min_eq_right h, List.drop_of_length_le (Nat.le_refl _), List.drop_of_length_le h, List.take_nil, List.take_nil]
section
variable {prog : Program} {w : World} {A : Around} {E : Value → Shared → Prop} {s : Shared} {h₀ : Heap} {L : Addr} {m : Str → Option Value} {news : List (Addr × Obj)} {value slice : Expr} {l : Addr} {sq : List Value} {Q : Value → Shared → Prop}
theorem slice_midN {a b : Int} {ta tb : Tok} (F : Fr h₀ L s.heap m) (N : News h₀ L s.heap news) (hl : s.heap.IsList l sq.toArray) (h0 : 0 ≤ a) (hab : a ≤ b) (hz : sq.length ≤ 8000)
    (h : ∀ D h', Fr h₀ L h' m → News h₀ L h' ((D, lObj ((sq.drop a.toNat).take (b - a).toNat) 0) :: news) → (∀ p ∈ news, p.1 < D) → Q (.ref D) { s with heap := h' })
    (hs : subscripted slice false (.ref l) (.ref s.heap.objs.size) = operate [.ref s.heap.objs.size, .ref l] (getItem (.ref l) (.ref s.heap.objs.size))) (ht : ∀ r, letTemporaryGo value (.ref l) r = pure ()) :
    wpAny (model prog w) A (subscriptTail value slice (.ref l) (.ref s.heap.objs.size)) Q E { s with heap := s.heap.push { cls := .type "slice", data := .fields #[.int a ta, .int b tb, .none] } } := by
  refine kmk_slice F N hl (.int _ _) (.int _ _) (fun D h' F' N' l1 => h D h' F' ?_ l1) hs ht (by rw [List.size_toArray, sizeLine_eq]; omega)
  rw [pick_mid sq h0 hab] at N'
  exact N'
theorem slice_fromN {a : Int} {ta : Tok} (F : Fr h₀ L s.heap m) (N : News h₀ L s.heap news) (hl : s.heap.IsList l sq.toArray) (h0 : 0 ≤ a) (hz : sq.length ≤ 8000)
    (h : ∀ D h', Fr h₀ L h' m → News h₀ L h' ((D, lObj (sq.drop a.toNat) 0) :: news) → (∀ p ∈ news, p.1 < D) → Q (.ref D) { s with heap := h' })
    (hs : subscripted slice false (.ref l) (.ref s.heap.objs.size) = operate [.ref s.heap.objs.size, .ref l] (getItem (.ref l) (.ref s.heap.objs.size))) (ht : ∀ r, letTemporaryGo value (.ref l) r = pure ()) :
    wpAny (model prog w) A (subscriptTail value slice (.ref l) (.ref s.heap.objs.size)) Q E { s with heap := s.heap.push { cls := .type "slice", data := .fields #[.int a ta, .none, .none] } } := by
  refine kmk_slice F N hl (.int _ _) .none (fun D h' F' N' l1 => h D h' F' ?_ l1) hs ht (by rw [List.size_toArray, sizeLine_eq]; omega)
  obtain ⟨a', rfl⟩ := Int.eq_ofNat_of_zero_le h0
  rw [slicePick_from', List.toList_toArray] at N'
  exact N'
end
theorem but_of {g h h' h₀ : Heap} {L : Addr} {m : Str → Option Value} {own : List (Addr × Obj)} {S : List Addr} (O : Owns h h₀ own) (ge : ∀ b o, h.get? b = some o → b ∉ own.map Prod.fst → g.get? b = some o) (F : Fr g L h' m)
    (hS : ∀ q ∈ own, q.1 ∈ S ∨ h'.get? q.1 = some q.2) : But S h h' := by
  intro b o nb e
  by_cases hm : b ∈ own.map Prod.fst
  · obtain ⟨q, hq, rfl⟩ := List.mem_map.mp hm
    rcases hS q hq with z | z
    · exact absurd z nb
    · have := (O q hq).1
      rw [e] at this
      cases this
      exact z
  · exact F.keep b o (ge b o e hm)
theorem forall2 {P : Addr × Obj → Prop} {a b : Addr × Obj} (h1 : P a) (h2 : P b) : ∀ q ∈ [a, b], P q := fun q hq => by
  rcases List.mem_cons.mp hq with rfl | hq
  · exact h1
  · rw [List.mem_singleton.mp hq]; exact h2
theorem forall3 {P : Addr × Obj → Prop} {a b c : Addr × Obj} (h1 : P a) (h2 : P b) (h3 : P c) : ∀ q ∈ [a, b, c], P q := fun q hq => by
  rcases List.mem_cons.mp hq with rfl | hq
  · exact h1
  · exact forall2 h2 h3 q hq
theorem none_off {g h : Heap} {own : List (Addr × Obj)} {b : Addr} (ge : ∀ b o, h.get? b = some o → b ∉ own.map Prod.fst → g.get? b = some o) (e : g.get? b = none) (n : AllNe b own) : h.get? b = none := by
  cases q : h.get? b with
  | none => rfl
  | some o =>
    have z := ge b o q fun hm => by
      obtain ⟨p, hp, hb⟩ := List.mem_map.mp hm
      exact n.all p hp hb
    rw [e] at z
    cases z
end
section
local macro_rules | `(tactic| walk_at "call builtin:len") => `(tactic| (k_here; (with_reducible show wpAny _ _ (call (Value.builtin "len") [Value.ref _]) _ _ _); k_dflt (refine' call_len_list ?l ?z ?_; (case l => is_list); (case z => (simp only [List.size_toArray, List.length_cons, List.length_nil, List.length_append, List.length_map, List.length_take, List.length_drop]; omega)); k_whole); (try simp only [List.size_toArray])))
local macro_rules | `(tactic| ktr_rel) => `(tactic| first | exact Fr.keep (by k_asm) _ _ (by assumption) | exact News.get (by k_asm) (by k_mem))
local macro_rules | `(tactic| walk_at "call builtin:list.extend") => `(tactic| (k_here; (with_reducible show wpAny _ _ (call (Value.builtin _) [Value.ref _, Value.ref _]) _ _ _); k_dflt (refine' extend_G ?F ?N ?U ?b ?z ?z2 ?_; (case F => k_asm); (case N => k_asm); (case b => ktr_rel); (case U => intro _; k_upd); (case z => ((try simp only [List.length_append, List.length_cons, List.length_nil, List.length_take, List.length_drop]); omega)); (case z2 => ((try simp only [List.length_append, List.length_cons, List.length_nil, List.length_take, List.length_drop]); omega)); k_whole); intro h' n' F' N'; (try dsimp only at N'); (try k_sweep)))
local macro_rules | `(tactic| walk_at "assign Tuple") => `(tactic| (k_here; (with_reducible show wpAny _ _ (assign (Expr.Tuple _ _ _) _ (Value.ref _)) _ _ _); k_dflt (refine' unpackN_ ?F ?N ?T ?k1 ?k2 ?k3 ?_; (case F => k_asm); (case N => k_asm); (case T => refine News.isTup (by k_asm) (by k_mem)); (case k1 => assumption); (case k2 => exact rfl); (case k3 => exact rfl); k_whole); intro h' F' N'; (try k_sweep)))
local macro_rules | `(tactic| walk_at "subscriptTail Name Slice ref ref") => `(tactic| (k_here; (with_reducible show wpAny _ _ (subscriptTail _ (PySem.Expr.Slice _ _ none _) (Value.ref _) (Value.ref _)) _ _ _); k_dflt (refine' slice_midN ?F ?N ?l ?a ?b ?z ?_ ?s ?t; (case F => k_asm); (case N => k_asm); (case l => is_list); (case a => first | assumption | omega); (case b => omega); (case z => omega); (case s => with_unfolding_all rfl); (case t => kmk_pure)); intro D' h' F' N' l1; (try k_lt l1); (try k_sweep)))
local macro_rules | `(tactic| walk_at "subscriptTail Name Slice ref ref") => `(tactic| (k_here; (with_reducible show wpAny _ _ (subscriptTail _ (PySem.Expr.Slice _ none none _) (Value.ref _) (Value.ref _)) _ _ _); k_dflt (refine' slice_fromN ?F ?N ?l ?a ?z ?_ ?s ?t; (case F => k_asm); (case N => k_asm); (case l => is_list); (case a => decide); (case z => omega); (case s => with_unfolding_all rfl); (case t => kmk_pure)); intro D' h' F' N' l1; (try k_lt l1); (try k_sweep)))
section
open PySem PySem.W PyProof.Rows PySem.Calls
set_option maxHeartbeats 4000000
local macro_rules | `(tactic| walk_at "nothing 0") => `(tactic| skip)
theorem fresh_FillTail : True := by w_top off; trivial
theorem fillTail_spec {w : World} {mean : ExcName → Option Value} {mg mb : Str → Option Value} {h₀ : Heap} {s : Shared} {A : Around} {x dx r t q : Addr} {ts tn ti : Tok} {n i : Int} {o : Value} {dn un qn : Nat} {tail sq : List Value} {R : Result → Shared → Prop}
    (st : h₀.StaysIn s.heap) (X : (atop.heap_39 w.params).In h₀) (T : TP mean mg mb h₀) (O : Owns s.heap h₀ [(x, vObj dx (.int n tn) (.ref r) (.int 5 ts) (.ref t) o), (dx, dictOf [] dn), (t, lObj tail un)])
    (hxd : @Ne Nat x dx) (hxt : @Ne Nat x t) (hdt : @Ne Nat dx t) (hq : s.heap.get? q = some (lObj sq qn)) (hqx : @Ne Nat q x) (hqd : @Ne Nat q dx) (hqt : @Ne Nat q t) (hi : 0 ≤ i) (hi2 : i < sq.length) (h32 : tail.length ≤ 32) (hz : sq.length ≤ 900) (hn : 0 ≤ n) (hn2 : n < 1100)
    (hd : A.depth < 970) (hh : A.handled = none)
    (hR : ∀ h' tk tn' un' tv, But [x, t] s.heap h' → h'.get? x = some (vObj dx (.int (n + ((sq.drop i.toNat).take (32 - tail.length)).length) tn') (.ref r) (.int 5 ts) (.ref t) o) → h'.get? t = some (lObj (tail ++ (sq.drop i.toNat).take (32 - tail.length)) un') →
      R (.ok (.ret (.int (i + ((sq.drop i.toNat).take (32 - tail.length)).length) tv))) { s with heap := h', toks := tk }) :
    codeAny (model PW w) A (.call (.ref 242) ⟨[.ref x, .int i ti, .ref q], []⟩) R s := by
  ktr_enter
  intro g L' h' ge hg0 gN F N X' T' l1
  replace F : Fr g L' h' (fun y => List.lookup y [(Str.ofString "sequence", .ref q), (Str.ofString "offset", .int i ti), (Str.ofString "self", .ref x)]) := F
  have hq' : g.get? q = some (lObj sq qn) := ge _ _ hq (by simp only [List.map_cons, List.map_nil, List.mem_cons, List.not_mem_nil, or_false, not_or]; exact ⟨hqx, hqd, hqt⟩)
  have hql : g.IsList q sq.toArray := isList_of hq'
  (try dsimp only)
  (try k_fold)
  k_steps
  (try dsimp only)
  have N9 := ‹News g L' _ _›
  have F9 := ‹Fr g L' _ _›
  have e9 : (i + (32 - (tail.length : Int)) - i).toNat = 32 - tail.length := by omega
  rw [e9] at N9 ⊢
  exact hR _ _ _ _ _ (but_of O ge F9 (forall3 (.inl (.head _)) (.inr (N9 _ (.tail _ (.tail _ (.head _)))).1) (.inl (.tail _ (.head _))))) (N9 _ (.tail _ (.head _))).1 (N9 _ (.tail _ (.tail _ (.tail _ (.head _))))).1
end
section
open PySem PySem.W PyProof.Rows PySem.Calls
set_option maxHeartbeats 4000000
local macro_rules | `(tactic| walk_at "nothing 0") => `(tactic| skip)
local macro_rules | `(tactic| walk_at "nothing 1") => `(tactic| skip)
local macro_rules | `(tactic| walk_at "nothing 2") => `(tactic| skip)
theorem fresh_InsTail : True := by w_top off; trivial
local macro_rules | `(tactic| walk_at "call ref") => `(tactic| (k_here; k_dflt (refine' cnr_N ?F ?X ?T ?N ?i ?r ?z ?n1 ?n2 ?d ?hh ?_; (case F => k_asm); (case X => k_asm); (case T => k_asm); (case N => k_asm); (case i => k_inst); (case r => ktr_rel); (case z => ((try simp only [List.length_append, List.length_cons, List.length_nil, List.length_map]); omega)); (case n1 => omega); (case n2 => omega); (case d => k_room); (case hh => assumption); k_whole); intro q' r' n' h' tk2' F' N' l1 l2 l3; (try (replace l1 := allNe_of l1; simp only [AllNe, and_true] at l1)); (try (replace l2 := allNe_of l2; simp only [AllNe, and_true] at l2)); (try k_sweep)))
theorem insTail_spec {w : World} {mean : ExcName → Option Value} {mg mb : Str → Option Value} {h₀ : Heap} {s : Shared} {A : Around} {x dx r t : Addr} {ts tn : Tok} {n : Int} {o : Value} {dn rn : Nat} {cs : List Value} {R : Result → Shared → Prop}
    (st : h₀.StaysIn s.heap) (X : (atop.heap_39 w.params).In h₀) (T : TP mean mg mb h₀) (O : Owns s.heap h₀ [(x, vObj dx (.int n tn) (.ref r) (.int 5 ts) (.ref t) o), (dx, dictOf [] dn)])
    (hxd : @Ne Nat x dx) (hr : s.heap.get? r = some (lObj cs rn)) (hrx : @Ne Nat r x) (hrd : @Ne Nat r dx) (hz : cs.length ≤ 900) (hn : 0 ≤ n) (hn2 : n < 1056)
    (hd : A.depth < 950) (hh : A.handled = none)
    (hR : ∀ h' tk r' rn' t', But [x] s.heap h' → s.heap.get? r' = none → s.heap.get? t' = none → @Ne Nat r' t' → h'.get? x = some (vObj dx (.int n tn) (.ref r') (.int 5 ts) (.ref t') o) → h'.get? r' = some (lObj (cs ++ [.ref t]) rn') → h'.get? t' = some (lObj [] 0) →
      R (.ok (.ret .none)) { s with heap := h', toks := tk }) :
    codeAny (model PW w) A (.call (.ref 235) ⟨[.ref x], []⟩) R s := by
  ktr_enter
  intro g L' h' ge hg0 gN F N X' T' l1
  replace F : Fr g L' h' (fun y => List.lookup y [(Str.ofString "self", .ref x)]) := F
  have hr' : g.get? r = some (lObj cs rn) := ge _ _ hr (by simp only [List.map_cons, List.map_nil, List.mem_cons, List.not_mem_nil, or_false, not_or]; exact ⟨hrx, hrd⟩)
  (try dsimp only)
  (try k_fold)
  k_steps
  have N9 := ‹News g L' _ _›
  have F9 := ‹Fr g L' _ _›
  refine hR _ _ _ _ _ (but_of O ge F9 (forall2 (.inl (.head _)) (.inr (N9 _ (.tail _ (.tail _ (.tail _ (.tail _ (.head _)))))).1))) (none_off ge (N9 _ (.tail _ (.tail _ (.head _)))).2.2 ?_) (none_off ge (N9 _ (.head _)).2.2 ?_) ?_ (N9 _ (.tail _ (.tail _ (.tail _ (.head _))))).1 (N9 _ (.tail _ (.tail _ (.head _)))).1 (N9 _ (.head _)).1
  · simp only [AllNe, and_true]; omega
  · simp only [AllNe, and_true]; omega
  · refine neN ?_; omega
theorem fillTail_N {w : World} {mean : ExcName → Option Value} {mg mb : Str → Option Value} {h₀ : Heap} {L : Addr} {m : Str → Option Value} {rest : List (Addr × Obj)} {s : Shared} {A : Around} {x dx r t q : Addr} {ts tn ti : Tok} {n i : Int} {o : Value} {dn un qn : Nat} {tail sq : List Value} {Q E : Value → Shared → Prop}
    (F : Fr h₀ L s.heap m) (X : (atop.heap_39 w.params).In h₀) (T : TP mean mg mb h₀) (N : News h₀ L s.heap ((x, vObj dx (.int n tn) (.ref r) (.int 5 ts) (.ref t) o) :: (dx, dictOf [] dn) :: (t, lObj tail un) :: rest))
    (hxd : @Ne Nat x dx) (hxt : @Ne Nat x t) (hdt : @Ne Nat dx t) (ax : ∀ p ∈ rest, p.1 ≠ x) (at' : ∀ p ∈ rest, p.1 ≠ t) (hq : h₀.get? q = some (lObj sq qn)) (hi : 0 ≤ i) (hi2 : i < sq.length) (h32 : tail.length ≤ 32) (hz : sq.length ≤ 900) (hn : 0 ≤ n) (hn2 : n < 1100)
    (hd : A.depth < 970) (hh : A.handled = none)
    (h : ∀ h' tk tn' un' tv, Fr h₀ L h' m → News h₀ L h' ((x, vObj dx (.int (n + ((sq.drop i.toNat).take (32 - tail.length)).length) tn') (.ref r) (.int 5 ts) (.ref t) o) :: (dx, dictOf [] dn) :: (t, lObj (tail ++ (sq.drop i.toNat).take (32 - tail.length)) un') :: rest) →
      Q (.int (i + ((sq.drop i.toNat).take (32 - tail.length)).length) tv) { s with heap := h', toks := tk }) :
    wpAny (model PW w) A (call (.ref 242) [.ref x, .int i ti, .ref q]) Q E s := by
  have nx := N _ (.head _)
  have nd := N _ (.tail _ (.head _))
  have nt := N _ (.tail _ (.tail _ (.head _)))
  refine wpAny_call (fillTail_spec F.keep X T (forall3 ⟨nx.1, nx.2.2⟩ ⟨nd.1, nd.2.2⟩ ⟨nt.1, nt.2.2⟩) hxd hxt hdt (F.keep _ _ hq) (ne_of_none hq nx.2.2) (ne_of_none hq nd.2.2) (ne_of_none hq nt.2.2) hi hi2 h32 hz hn hn2 hd hh fun h' tk tn' un' tv k g1 g2 => ?_)
  refine h h' tk tn' un' tv (fr_but F (fun b hb => ?_) k) (news_cons g1 nx.2 (news_cons (k _ _ ?_ nd.1) nd.2 (news_cons g2 nt.2 (news_but (fun p hp => N p (.tail _ (.tail _ (.tail _ hp)))) (fun p hp => ?_) k))))
  · rcases List.mem_cons.mp hb with rfl | hb
    · exact ⟨nx.2.2, fun q => nx.2.1 q.symm⟩
    · rw [List.mem_singleton.mp hb]; exact ⟨nt.2.2, fun q => nt.2.1 q.symm⟩
  · simp only [List.mem_cons, List.not_mem_nil, or_false, not_or]
    exact ⟨fun q => hxd q.symm, hdt⟩
  · simp only [List.mem_cons, List.not_mem_nil, or_false, not_or]
    exact ⟨ax p hp, at' p hp⟩
theorem insTail_N {w : World} {mean : ExcName → Option Value} {mg mb : Str → Option Value} {h₀ : Heap} {L : Addr} {m : Str → Option Value} {rest : List (Addr × Obj)} {s : Shared} {A : Around} {x dx r t : Addr} {ts tn : Tok} {n : Int} {o : Value} {dn rn : Nat} {cs : List Value} {Q E : Value → Shared → Prop}
    (F : Fr h₀ L s.heap m) (X : (atop.heap_39 w.params).In h₀) (T : TP mean mg mb h₀) (N : News h₀ L s.heap ((x, vObj dx (.int n tn) (.ref r) (.int 5 ts) (.ref t) o) :: (dx, dictOf [] dn) :: rest))
    (hxd : @Ne Nat x dx) (ax : ∀ p ∈ rest, p.1 ≠ x) (hr : s.heap.get? r = some (lObj cs rn)) (hrx : @Ne Nat r x) (hrd : @Ne Nat r dx) (hz : cs.length ≤ 900) (hn : 0 ≤ n) (hn2 : n < 1056) (hd : A.depth < 950) (hh : A.handled = none)
    (h : ∀ h' tk r' rn' t', Fr h₀ L h' m → News h₀ L h' ((x, vObj dx (.int n tn) (.ref r') (.int 5 ts) (.ref t') o) :: (dx, dictOf [] dn) :: (t', lObj [] 0) :: (r', lObj (cs ++ [.ref t]) rn') :: rest) → @Ne Nat r' t' → @Ne Nat x r' → @Ne Nat x t' → @Ne Nat dx r' → @Ne Nat dx t' →
      (∀ p ∈ rest, p.1 ≠ r') → (∀ p ∈ rest, p.1 ≠ t') → Q .none { s with heap := h', toks := tk }) :
    wpAny (model PW w) A (call (.ref 235) [.ref x]) Q E s := by
  have nx := N _ (.head _)
  have nd := N _ (.tail _ (.head _))
  refine wpAny_call (insTail_spec F.keep X T (forall2 ⟨nx.1, nx.2.2⟩ ⟨nd.1, nd.2.2⟩) hxd hr hrx hrd hz hn hn2 hd hh fun h' tk r' rn' t' k n1 n2 n3 g1 g2 g3 => ?_)
  have hL : ∀ b, s.heap.get? b = none → b ≠ L ∧ h₀.get? b = none := fun b e => ⟨fun q => (by
    obtain ⟨oL, _, _, hL, _⟩ := F.ns
    rw [q, hL] at e; cases e), none_of F.keep e⟩
  refine h h' tk r' rn' t' (fr_but F (fun b hb => by rw [List.mem_singleton.mp hb]; exact ⟨nx.2.2, fun q => nx.2.1 q.symm⟩) k)
    (news_cons g1 nx.2 (news_cons (k _ _ (by rw [List.mem_singleton]; exact fun q => hxd q.symm) nd.1) nd.2 (news_cons g3 (hL _ n2) (news_cons g2 (hL _ n1) (news_but (fun p hp => N p (.tail _ (.tail _ hp))) (fun p hp => by rw [List.mem_singleton]; exact ax p hp) k)))))
    n3 (ne_of_none nx.1 n1) (ne_of_none nx.1 n2) (ne_of_none nd.1 n1) (ne_of_none nd.1 n2) (fun p hp => ne_of_none (N p (.tail _ (.tail _ hp))).1 n1) (fun p hp => ne_of_none (N p (.tail _ (.tail _ hp))).1 n2)
end
section
open PySem PySem.W PyProof.Rows PySem.Calls
set_option maxHeartbeats 4000000
theorem fresh_MExt : True := by w_top off; trivial
def Halt (p : Prop) : Prop := p
theorem halt {p : Prop} (h : Halt p) : p := h
local macro_rules | `(tactic| walk_at "exec While Compare") => `(tactic| (k_here; refine halt ?_))
local macro_rules | `(tactic| walk_at "last exec While") => `(tactic| (k_here; refine halt ?_))
/-- the shape of the vector that is being filled -/
structure MX (G : Addr → Obj → Prop) (x dx : Addr) (ts : Tok) (o : Value) (dn : Nat) (init : List Value) (sq : List Value) (i : Nat) (nx : List (Addr × Obj)) (n : Nat) (r t : Addr) (tn : Tok) (rn un : Nat) (chunks : List (Addr × List Value × Nat)) (tail : List Value) (rest : List (Addr × Obj)) : Prop where
  e : nx = (x, vObj dx (.int n tn) (.ref r) (.int 5 ts) (.ref t) o) :: (dx, dictOf [] dn) :: (t, lObj tail un) :: rest
  ax : ∀ p ∈ rest, p.1 ≠ x
  ad : ∀ p ∈ rest, p.1 ≠ dx
  at' : ∀ p ∈ rest, p.1 ≠ t
  xd : @Ne Nat x dx
  xt : @Ne Nat x t
  dt : @Ne Nat dx t
  hr : (r, lObj (chunks.map fun c => .ref c.1) rn) ∈ rest ∨ G r (lObj (chunks.map fun c => .ref c.1) rn)
  hc : ∀ c ∈ chunks, ((c.1, lObj c.2.1 c.2.2) ∈ rest ∨ G c.1 (lObj c.2.1 c.2.2)) ∧ c.2.1.length = 32
  h32 : tail.length < 32
  hn : n = init.length + i
  hi : i ≤ sq.length
  he : init ++ sq.take i = chunks.flatMap (fun c => c.2.1) ++ tail
abbrev mxM (x q : Addr) (z k : Tok) (len : Int) : Str → Option Value := fun y => if y = Str.ofString "sequence_len" then some (Value.int len k) else if y = Str.ofString "offset" then some (Value.int 0 z) else List.lookup y [(Str.ofString "sequence", .ref q), (Str.ofString "self", .ref x)]
local macro_rules | `(tactic| k_all) => `(tactic| assumption)
theorem mext_spec {w : World} {mean : ExcName → Option Value} {mg mb : Str → Option Value} {h₀ : Heap} {s : Shared} {A : Around} {x dx r t q : Addr} {ts tn to : Tok} {n on : Int} {dn un rn qn : Nat} {tail sq init : List Value} {chunks : List (Addr × List Value × Nat)} {R : Result → Shared → Prop}
    (st : h₀.StaysIn s.heap) (X : (atop.heap_39 w.params).In h₀) (T : TP mean mg mb h₀) (O : Owns s.heap h₀ [(x, vObj dx (.int n tn) (.ref r) (.int 5 ts) (.ref t) (.int on to)), (dx, dictOf [] dn), (t, lObj tail un)])
    (hxd : @Ne Nat x dx) (hxt : @Ne Nat x t) (hdt : @Ne Nat dx t) (hq : s.heap.get? q = some (lObj sq qn)) (hqx : @Ne Nat q x) (hqd : @Ne Nat q dx) (hqt : @Ne Nat q t)
    {G : Addr → Obj → Prop} (hG : ∀ a o, G a o → s.heap.get? a = some o ∧ @Ne Nat a x ∧ @Ne Nat a dx ∧ @Ne Nat a t) (hr : G r (lObj (chunks.map fun c => .ref c.1) rn))
    (hc : ∀ c ∈ chunks, G c.1 (lObj c.2.1 c.2.2) ∧ c.2.1.length = 32)
    (h32 : tail.length < 32) (hn : n = init.length) (he : init = chunks.flatMap (fun c => c.2.1) ++ tail)
    (hz : init.length + sq.length ≤ 900) (hd : A.depth < 940) (hh : A.handled = none)
    (hR : ∀ h' tk (tl : List (Addr × Obj)), But [x, dx, t] s.heap h' → (∀ p ∈ tl, (s.heap.get? p.1 = none ∨ p.1 = x ∨ p.1 = dx ∨ p.1 = t) ∧ h'.get? p.1 = some p.2) → VecAt (fun a o => (a, o) ∈ tl ∨ G a o) x (init ++ sq) →
      R (.ok (.ret .none)) { s with heap := h', toks := tk }) :
    codeAny (model PW w) A (.call (.ref 249) ⟨[.ref x, .ref q], []⟩) R s := by
  ktr_enter
  intro g L' h' ge hg0 gN F N X' T' l1
  replace F : Fr g L' h' (fun y => List.lookup y [(Str.ofString "sequence", .ref q), (Str.ofString "self", .ref x)]) := F
  have ge3 : ∀ b o, s.heap.get? b = some o → @Ne Nat b x → @Ne Nat b dx → @Ne Nat b t → g.get? b = some o := fun b o e a1 a2 a3 => ge _ _ e (by simp only [List.map_cons, List.map_nil, List.mem_cons, List.not_mem_nil, or_false, not_or]; exact ⟨a1, a2, a3⟩)
  have hq' : g.get? q = some (lObj sq qn) := ge3 _ _ hq hqx hqd hqt
  have hql : g.IsList q sq.toArray := isList_of hq'
  subst hn
  (try dsimp only)
  (try k_fold)
  k_steps
  (try dsimp only)
  have N1 := ‹News g L' _ _›
  obtain ⟨z0, k0, F1⟩ : ∃ z0 k0, Fr g L' _ (mxM x q z0 k0 sq.length) := ⟨_, _, ‹Fr g L' _ _›⟩
  show wpAny _ _ _ _ _ _
  refine While_inv (fun k m nx => ∃ i ti, m = (fun y => if y = Str.ofString "offset" then some (.int (i : Nat) ti) else mxM x q z0 k0 sq.length y) ∧ k = sq.length - i ∧ ∃ n r' t' tn rn un chunks tail rest, MX G x dx ts (.int on to) dn init sq i nx n r' t' tn rn un chunks tail rest) (n₀ := sq.length) F1 N1
    ⟨0, _, m_in _ _, rfl, _, _, _, _, _, _, _, _, _, ⟨rfl, fun p hp => (by cases hp), fun p hp => (by cases hp), fun p hp => (by cases hp), hxd, hxt, hdt, .inr hr, fun c m => ⟨.inr (hc c m).1, (hc c m).2⟩, h32, rfl, Nat.zero_le _, by rw [List.take_zero, List.append_nil]; exact he⟩⟩ ?_ (by passes_own)
  clear F1 N1
  rintro k m₁ nx h1 tk1 F2 N2 ⟨i, ti, rfl, rfl, n, r1, t1, tn1, rn1, un1, chunks, tail, rest, rfl, ax, ad, at', xd, xt, dt, hr1, hc1, h32, rfl, hi, he1⟩
  by_cases hlt : i < sq.length
  · have hlt' : (i : Int) < (sq.length : Int) := by omega
    k_steps
    refine fillTail_N F2 X' T' N2 xd xt dt ax at' hq' (by omega) hlt' (by omega) (by omega) (by omega) (by omega) (by k_room) hh fun h2 tk2 tn2 un2 tv2 F3 N3 => ?_
    clear F2 N2
    have eN : (i : Int).toNat = i := Int.toNat_natCast i
    rw [eN] at N3
    rw [eN]
    generalize hδ : (sq.drop i).take (32 - tail.length) = δ at N3 ⊢
    have hδl : δ.length = min (32 - tail.length) (sq.length - i) := by rw [← hδ, List.length_take, List.length_drop]
    have hδe : sq.take (i + δ.length) = sq.take i ++ δ := by
      rw [List.take_add, ← hδ, List.length_take, List.length_drop]
      congr 1
      rcases Nat.le_total (32 - tail.length) (sq.length - i) with h | h
      · rw [Nat.min_eq_left h]
      · rw [Nat.min_eq_right h, List.take_of_length_le (i := 32 - tail.length) (by rw [List.length_drop]; exact h), List.take_of_length_le (by rw [List.length_drop]; exact Nat.le_refl _)]
    have e1 : ((init.length + i : Nat) : Int) + (δ.length : Int) = ((init.length + (i + δ.length) : Nat) : Int) := by omega
    rw [e1] at N3
    have e2 : (i : Int) + (δ.length : Int) = ((i + δ.length : Nat) : Int) := by omega
    rw [e2]
    k_steps
    · have N4 := ‹News g L' _ _›
      have F4 := ‹Fr g L' _ _›
      have hlen : 32 * chunks.length + tail.length = init.length + i := by
        have := congrArg List.length he1
        rw [List.length_append, List.length_append, chunks_length fun c m => (hc1 c m).2, List.length_take] at this
        omega
      refine insTail_N F4 X' T' N4 xd (fun p hp => ?_) (r := r1) (cs := chunks.map fun c => .ref c.1) (rn := rn1) ?_ ?_ ?_ (by rw [List.length_map]; omega) (by omega) (by omega) (by k_room) hh fun h5 tk5 r5 rn5 t5 F5 N5 m1 m2 m3 m4 m5 m6 m7 => ?_
      · rcases List.mem_cons.mp hp with rfl | hp
        · exact fun q => xt q.symm
        · exact ax p hp
      · rcases hr1 with h | h
        · exact (N4 _ (.tail _ (.tail _ (.tail _ h)))).1
        · exact F4.keep _ _ (ge3 _ _ (hG _ _ h).1 (hG _ _ h).2.1 (hG _ _ h).2.2.1 (hG _ _ h).2.2.2)
      · rcases hr1 with h | h
        · exact ax _ h
        · exact (hG _ _ h).2.1
      · rcases hr1 with h | h
        · exact ad _ h
        · exact (hG _ _ h).2.2.1
      clear F4 N4
      k_steps
      have N9 := ‹News g L' _ _›
      have F9 := ‹Fr g L' _ _›
      rw [m_again] at F9
      refine WhileStep.intro F9 N9 (n' := sq.length - (i + δ.length)) (by omega) ⟨i + δ.length, _, rfl, rfl, _, r5, t5, _, rn5, 0, chunks ++ [(t1, tail ++ δ, un2)], [], _, rfl, ?_, ?_, ?_, xd, m3, m5, ?_, fun c m => ?_, (by decide), rfl, by omega, ?_⟩
      · intro p hp
        rcases List.mem_cons.mp hp with rfl | hp
        · exact fun q => m2 q.symm
        · rcases List.mem_cons.mp hp with rfl | hp
          · exact fun q => xt q.symm
          · exact ax p hp
      · intro p hp
        rcases List.mem_cons.mp hp with rfl | hp
        · exact fun q => m4 q.symm
        · rcases List.mem_cons.mp hp with rfl | hp
          · exact fun q => dt q.symm
          · exact ad p hp
      · intro p hp
        rcases List.mem_cons.mp hp with rfl | hp
        · exact m1
        · exact m7 p hp
      · rw [List.map_append]; exact .inl (.head _)
      · rcases List.mem_append.mp m with m | m
        · exact ⟨(hc1 c m).1.imp (fun h => .tail _ (.tail _ h)) id, (hc1 c m).2⟩
        · rw [List.mem_singleton.mp m]
          exact ⟨.inl (.tail _ (.head _)), by have := ‹((tail ++ δ).length : Int) = 32›; show (tail ++ δ).length = 32; omega⟩
      · rw [hδe, ← List.append_assoc, he1, List.flatMap_append, List.append_assoc]; simp
    · have N9 := ‹News g L' _ _›
      have F9 := ‹Fr g L' _ _›
      rw [m_again] at F9
      have hne : ¬ (tail ++ δ).length = 32 := by
        intro q
        have := ‹¬ ((tail ++ δ).length : Int) = 32›
        omega
      refine WhileStep.intro F9 N9 (n' := sq.length - (i + δ.length)) (by omega) ⟨i + δ.length, _, rfl, rfl, _, _, _, _, _, _, chunks, tail ++ δ, rest, rfl, ax, ad, at', xd, xt, dt, hr1, hc1, ?_, rfl, by omega, by rw [hδe, ← List.append_assoc, he1, List.append_assoc]⟩
      rw [List.length_append] at hne ⊢
      omega
  · have hlt' : ¬ (i : Int) < (sq.length : Int) := by omega
    k_steps
    (try dsimp only)
    have N9 := ‹News g L' _ _›
    have F9 := ‹Fr g L' _ _›
    have ei : i = sq.length := by omega
    have e1 : ((init ++ sq).length : Int) = ((init.length + i : Nat) : Int) := by rw [List.length_append, ei]
    refine hR _ _ _ (fun b o hb e => F9.keep b o (ge b o e hb)) (fun p hp => ⟨?_, (N9 p hp).1⟩) ?_
    · have hg := (N9 p hp).2.2
      by_cases m1 : p.1 = x
      · exact .inr (.inl m1)
      · by_cases m2 : p.1 = dx
        · exact .inr (.inr (.inl m2))
        · by_cases m3 : p.1 = t
          · exact .inr (.inr (.inr m3))
          · cases hs : s.heap.get? p.1 with
            | none => exact .inl rfl
            | some o => rw [ge3 _ _ hs m1 m2 m3] at hg; cases hg
    · refine VecAt.of (rn := rn1) chunks tail (.inl (.head _)) (.inl (.tail _ (.head _))) ?_ (.inl (.tail _ (.tail _ (.head _)))) e1.symm (by rw [e1]) (fun c m => ⟨?_, (hc1 c m).2⟩) (by omega) (by rw [← he1, ei, List.take_length])
      · exact hr1.imp (fun h => .tail _ (.tail _ (.tail _ h))) id
      · exact (hc1 c m).1.imp (fun h => .tail _ (.tail _ (.tail _ h))) id
end
section
open PySem PySem.W PyProof.Rows PySem.Calls
set_option maxHeartbeats 4000000
local macro_rules | `(tactic| walk_at "nothing 0") => `(tactic| skip)
local macro_rules | `(tactic| walk_at "nothing 1") => `(tactic| skip)
local macro_rules | `(tactic| walk_at "nothing 2") => `(tactic| skip)
theorem fresh_Extend : True := by w_top off; trivial
local macro_rules | `(tactic| walk_at "call ref") => `(tactic| (k_here; k_dflt (refine' cls_NA ?F ?X ?T ?N ?t ?z ?d ?_; (case F => k_asm); (case X => k_asm); (case T => k_asm); (case N => k_asm); (case t => is_list); (case z => ((try simp only [Array.size_push, List.size_toArray, List.length_append, List.length_cons, List.length_nil]); omega)); (case d => k_room); k_whole); intro x' d' tk' h' tk2' F' N' l1 l2 l3; (try (replace l1 := allNe_of l1; simp only [AllNe, and_true] at l1)); (try (replace l2 := allNe_of l2; simp only [AllNe, and_true] at l2)); (try k_sweep)))
theorem emp_at : ∃ tn ts to, (atop.heap_39 (w : World).params).lookup 311 = some (vObj 310 (.int 0 tn) (.ref 306) (.int 5 ts) (.ref 307) (.int 0 to)) := ⟨_, _, _, by k_is⟩
theorem append0_spec {w : World} {mean : ExcName → Option Value} {mg mb : Str → Option Value} {h₀ : Heap} {s : Shared} {A : Around} {v : Value} {R : Result → Shared → Prop}
    (st : h₀.StaysIn s.heap) (X : (atop.heap_39 w.params).In h₀) (T : TP mean mg mb h₀) (hd : A.depth < 960) (hh : A.handled = none)
    (hR : ∀ y d t tn ts to un h' tk, Ext s.heap h' → s.heap.get? y = none → s.heap.get? d = none → s.heap.get? t = none → @Ne Nat y d → @Ne Nat y t → @Ne Nat d t → h'.get? y = some (vObj d (.int 1 tn) (.ref 306) (.int 5 ts) (.ref t) (.int 0 to)) → h'.get? d = some (dictOf [] 0) → h'.get? t = some (lObj [v] un) →
      R (.ok (.ret (.ref y))) { s with heap := h', toks := tk }) :
    codeAny (model PW w) A (.call (.ref 221) ⟨[.ref 311, v], []⟩) R s := by
  have O : Owns s.heap h₀ [] := .nil
  ktr_enter
  intro g L' h' ge hg0 gN F N X' T' l1
  replace F : Fr g L' h' (fun y => List.lookup y [(Str.ofString "val", v), (Str.ofString "self", .ref 311)]) := F
  (try dsimp only)
  (try k_fold)
  have hl7 : g.IsList 307 ([] : List Value).toArray := isList_of (n := 0) (X' 307 _ (by k_is))
  k_steps
  have N9 := ‹News g L' _ _›
  have F9 := ‹Fr g L' _ _›
  have k9 : Ext s.heap g := fun b o e => ge b o e (by simp)
  exact hR _ _ _ _ _ _ _ _ _ (fun b o e => F9.keep b o (k9 b o e)) (none_of k9 (N9 _ (.head _)).2.2) (none_of k9 (N9 _ (.tail _ (.head _))).2.2) (none_of k9 (N9 _ (.tail _ (.tail _ (.head _)))).2.2)
    (Ne.symm ‹_›) (Ne.symm ‹_›) (Ne.symm ‹_›) (N9 _ (.head _)).1 (N9 _ (.tail _ (.head _))).1 (N9 _ (.tail _ (.tail _ (.head _)))).1
theorem append0_N {w : World} {mean : ExcName → Option Value} {mg mb : Str → Option Value} {h₀ : Heap} {L : Addr} {m : Str → Option Value} {rest : List (Addr × Obj)} {s : Shared} {A : Around} {v : Value} {Q E : Value → Shared → Prop}
    (F : Fr h₀ L s.heap m) (X : (atop.heap_39 w.params).In h₀) (T : TP mean mg mb h₀) (N : News h₀ L s.heap rest) (hd : A.depth < 960) (hh : A.handled = none)
    (h : ∀ y d t tn ts to un h' tk, Fr h₀ L h' m → News h₀ L h' ((y, vObj d (.int 1 tn) (.ref 306) (.int 5 ts) (.ref t) (.int 0 to)) :: (d, dictOf [] 0) :: (t, lObj [v] un) :: rest) → @Ne Nat y d → @Ne Nat y t → @Ne Nat d t →
      (∀ p ∈ rest, p.1 ≠ y) → (∀ p ∈ rest, p.1 ≠ d) → (∀ p ∈ rest, p.1 ≠ t) → Q (.ref y) { s with heap := h', toks := tk }) :
    wpAny (model PW w) A (call (.ref 221) [.ref 311, v]) Q E s := by
  refine wpAny_call (append0_spec F.keep X T hd hh fun y d t tn ts to un h' tk k n1 n2 n3 d1 d2 d3 g1 g2 g3 => ?_)
  have hL : ∀ b, s.heap.get? b = none → b ≠ L ∧ h₀.get? b = none := fun b e => ⟨fun q => (by
    obtain ⟨oL, _, _, hL, _⟩ := F.ns
    rw [q, hL] at e; cases e), none_of F.keep e⟩
  exact h y d t tn ts to un h' tk (fr_ext F k) (news_cons g1 (hL _ n1) (news_cons g2 (hL _ n2) (news_cons g3 (hL _ n3) (news_ext N k)))) d1 d2 d3 (news_ne N n1) (news_ne N n2) (news_ne N n3)
local macro_rules | `(tactic| walk_at "call builtin:isinstance") => `(tactic| (k_here; (with_reducible show wpAny _ _ (call _ [Value.ref _, Value.ref _]) _ _ _); k_dflt (refine' kia_one (K := atop.heap_39 _) kitx_list ?X ?c ?ee ?nb ?_; (case X => k_in); (case c => exact ⟨_, Fr.keep (by k_asm) _ _ (by assumption), rfl⟩); (case ee => kit_is); (case nb => kit_nb); k_whole; intro _)))
theorem extend_spec {w : World} {mean : ExcName → Option Value} {mg mb : Str → Option Value} {h₀ : Heap} {s : Shared} {A : Around} {q : Addr} {qn : Nat} {vs : List Value} {R : Result → Shared → Prop}
    (st : h₀.StaysIn s.heap) (X : (atop.heap_39 w.params).In h₀) (T : TP mean mg mb h₀) (hq : s.heap.get? q = some (lObj vs qn)) (hz : vs.length ≤ 850) (hd : A.depth < 920) (hh : A.handled = none)
    (hR : ∀ y (tl : List (Addr × Obj)) h' tk, Ext s.heap h' → (∀ p ∈ tl, s.heap.get? p.1 = none ∧ h'.get? p.1 = some p.2) → VecAt (fun a o => (a, o) ∈ tl ∨ h₀.get? a = some o) y vs →
      R (.ok (.ret (.ref y))) { s with heap := h', toks := tk }) :
    codeAny (model PW w) A (.call (.ref 256) ⟨[.ref 311, .ref q], []⟩) R s := by
  have O : Owns s.heap h₀ [] := .nil
  ktr_enter
  intro g L' h' ge hg0 gN F N X' T' l1
  replace F : Fr g L' h' (fun y => List.lookup y [(Str.ofString "obj", .ref q), (Str.ofString "self", .ref 311)]) := F
  have k9 : Ext s.heap g := fun b o e => ge b o e (by simp)
  have hq' : g.get? q = some (lObj vs qn) := k9 _ _ hq
  have hql : g.IsList q vs.toArray := isList_of hq'
  (try dsimp only)
  (try k_fold)
  cases vs with
  | nil =>
    k_steps
    refine hR 311 [] _ _ (fun b o e => ‹Fr g L' _ _›.keep b o (k9 b o e)) (fun p hp => by cases hp) ?_
    exact VecAt.of (n := 0) (off := 0) (rn := 0) (un := 0) (dn := 0) (dx := 310) (r := 306) (t := 307) [] [] (.inr (X 311 _ (by k_is))) (.inr (X 310 _ (by k_is))) (.inr (X 306 _ (by k_is))) (.inr (X 307 _ (by k_is))) rfl rfl (fun c m => by cases m) (by decide) rfl
  | cons v vs =>
    k_steps
    refine append0_N ‹Fr g L' _ _› X' T' ‹News g L' _ _› (by k_room) hh fun y d t tn ts to un h2 tk2 F2 N2 d1 d2 d3 e1 e2 e3 => ?_
    k_steps
    have N3 := ‹News g L' _ _›
    have F3 := ‹Fr g L' _ _›
    have nx := N3 _ (.tail _ (.head _))
    have nd := N3 _ (.tail _ (.tail _ (.head _)))
    have nt := N3 _ (.tail _ (.tail _ (.tail _ (.head _))))
    have nq := N3 _ (.head _)
    have h06 : h₀.get? 306 = some (lObj [] 0) := X 306 _ (by k_is)
    refine wpAny_call (mext_spec (init := [v]) (sq := vs) (chunks := []) (tail := [v]) (G := fun a o => h₀.get? a = some o) (fun b o e => F3.keep _ _ (hg0 b o e)) X T (forall3 ⟨nx.1, none_of hg0 nx.2.2⟩ ⟨nd.1, none_of hg0 nd.2.2⟩ ⟨nt.1, none_of hg0 nt.2.2⟩) d1 d2 d3 nq.1 ?a1 ?a2 ?a3
      (fun a o e => ⟨F3.keep _ _ (hg0 _ _ e), ne_of_none e (none_of hg0 nx.2.2), ne_of_none e (none_of hg0 nd.2.2), ne_of_none e (none_of hg0 nt.2.2)⟩) h06 (fun c m => by cases m) (by show 1 < 32; decide) rfl rfl (by simp only [List.length_cons, List.length_nil] at hz ⊢; omega) (by k_room) hh fun h4 tk4 tl k4 f4 V => ?_)
    case a1 => exact Nat.ne_of_gt (‹y < _ ∧ d < _ ∧ t < _ ∧ _ < _› : _ ∧ _ ∧ _ ∧ _).1
    case a2 => exact Nat.ne_of_gt (‹y < _ ∧ d < _ ∧ t < _ ∧ _ < _› : _ ∧ _ ∧ _ ∧ _).2.1
    case a3 => exact Nat.ne_of_gt (‹y < _ ∧ d < _ ∧ t < _ ∧ _ < _› : _ ∧ _ ∧ _ ∧ _).2.2.1
    have hb3 : ∀ b ∈ [y, d, t], g.get? b = none ∧ L' ≠ b := by
      intro b hb
      rcases List.mem_cons.mp hb with rfl | hb
      · exact ⟨nx.2.2, fun q => nx.2.1 q.symm⟩
      · rcases List.mem_cons.mp hb with rfl | hb
        · exact ⟨nd.2.2, fun q => nd.2.1 q.symm⟩
        · rw [List.mem_singleton.mp hb]; exact ⟨nt.2.2, fun q => nt.2.1 q.symm⟩
    have F5 := fr_but F3 hb3 k4
    have N5 : News g L' h4 [] := fun p hp => by cases hp
    have back : ∀ p ∈ tl, s.heap.get? p.1 = none ∧ h4.get? p.1 = some p.2 := by
      intro p hp
      refine ⟨none_of k9 ?_, (f4 p hp).2⟩
      rcases (f4 p hp).1 with e | e | e | e
      · exact none_of F3.keep e
      · rw [e]; exact nx.2.2
      · rw [e]; exact nd.2.2
      · rw [e]; exact nt.2.2
    clear F3 N3
    k_steps
    exact hR y tl _ _ (fun b o e => ‹Fr g L' _ _›.keep b o (k9 b o e)) back V
end
section
open PySem PySem.W PyProof.Rows PySem.Calls
set_option maxHeartbeats 4000000
theorem fresh_PVec : True := by w_top off; trivial
local macro_rules | `(tactic| ktr_enter) => `(tactic| (
  refine' enter ?O ?st ?X ?T ?ho ?hcd ?room ?hbind ?hloc ?_ ?c1 ?c2 ?c3 ?c4
  (case O => assumption)
  (case st => assumption)
  (case X => assumption)
  (case T => assumption)
  (case ho => k_is)
  (case hcd => k_is)
  (case room => k_room)
  (case hbind => first | exact BindsTo.of_eq rfl | exact binds_K (Frag.In.keeps (by assumption) (by assumption)) rfl (by k_is) rfl rfl rfl)
  (case hloc => exact locs rfl)
  (case c1 => exact rfl)
  (case c2 => exact rfl)
  (case c3 => exact rfl)
  (case c4 => decide)))
theorem pvec_spec {w : World} {mean : ExcName → Option Value} {mg mb : Str → Option Value} {h₀ : Heap} {s : Shared} {A : Around} {q : Addr} {qn : Nat} {vs : List Value} {R : Result → Shared → Prop}
    (st : h₀.StaysIn s.heap) (X : (atop.heap_39 w.params).In h₀) (T : TP mean mg mb h₀) (hq : s.heap.get? q = some (lObj vs qn)) (hz : vs.length ≤ 850) (hd : A.depth < 910) (hh : A.handled = none)
    (hR : ∀ y (tl : List (Addr × Obj)) h' tk, Ext s.heap h' → (∀ p ∈ tl, s.heap.get? p.1 = none ∧ h'.get? p.1 = some p.2) → VecAt (fun a o => (a, o) ∈ tl ∨ h₀.get? a = some o) y vs →
      R (.ok (.ret (.ref y))) { s with heap := h', toks := tk }) :
    codeAny (model PW w) A (.call (.ref 320) ⟨[.ref q], []⟩) R s := by
  have O : Owns s.heap h₀ [] := .nil
  ktr_enter
  intro g L' h' ge hg0 gN F N X' T' l1
  replace F : Fr g L' h' (fun y => List.lookup y [(Str.ofString "iterable", .ref q)]) := F
  have k9 : Ext s.heap g := fun b o e => ge b o e (by simp)
  (try dsimp only)
  (try k_fold)
  k_steps
  have F3 := ‹Fr g L' _ _›
  refine wpAny_call (extend_spec (fun b o e => F3.keep _ _ (hg0 b o e)) X T (F3.keep _ _ (k9 _ _ hq)) hz (by k_room) hh fun y tl h4 tk4 k4 f4 V => ?_)
  have F5 := fr_ext F3 k4
  have N5 : News g L' h4 [] := fun p hp => by cases hp
  have back : ∀ p ∈ tl, s.heap.get? p.1 = none ∧ h4.get? p.1 = some p.2 := fun p hp => ⟨none_of k9 (none_of F3.keep (f4 p hp).1), (f4 p hp).2⟩
  clear F3
  k_steps
  exact hR y tl _ _ (fun b o e => ‹Fr g L' _ _›.keep b o (k9 b o e)) back V
local macro_rules | `(tactic| walk_at "call builtin:isinstance") => `(tactic| (k_here; (with_reducible show wpAny _ _ (call _ [Value.ref _, Value.ref _]) _ _ _); k_dflt (refine' kia_one (K := atop.heap_39 _) kitx_tuple ?X ?c ?ee ?nb ?_; (case X => k_in); (case c => exact ⟨_, Fr.keep (by k_asm) _ _ (by assumption), rfl⟩); (case ee => kit_is); (case nb => kit_nb); k_whole; intro _)))
theorem extend0_spec {w : World} {mean : ExcName → Option Value} {mg mb : Str → Option Value} {h₀ : Heap} {s : Shared} {A : Around} {R : Result → Shared → Prop}
    (st : h₀.StaysIn s.heap) (X : (atop.heap_39 w.params).In h₀) (T : TP mean mg mb h₀) (hd : A.depth < 920) (hh : A.handled = none)
    (hR : ∀ h' tk, Ext s.heap h' → R (.ok (.ret (.ref 311))) { s with heap := h', toks := tk }) :
    codeAny (model PW w) A (.call (.ref 256) ⟨[.ref 311, .ref 312], []⟩) R s := by
  have O : Owns s.heap h₀ [] := .nil
  ktr_enter
  intro g L' h' ge hg0 gN F N X' T' l1
  replace F : Fr g L' h' (fun y => List.lookup y [(Str.ofString "obj", .ref 312), (Str.ofString "self", .ref 311)]) := F
  have k9 : Ext s.heap g := fun b o e => ge b o e (by simp)
  have hq' := X' 312 _ (by k_is)
  have hT : IsTup g 312 #[] := ⟨_, hq', rfl, _, rfl⟩
  (try dsimp only)
  (try k_fold)
  k_steps
  exact hR _ _ (fun b o e => ‹Fr g L' _ _›.keep b o (k9 b o e))
theorem pvec0_spec {w : World} {mean : ExcName → Option Value} {mg mb : Str → Option Value} {h₀ : Heap} {s : Shared} {A : Around} {R : Result → Shared → Prop}
    (st : h₀.StaysIn s.heap) (X : (atop.heap_39 w.params).In h₀) (T : TP mean mg mb h₀) (hd : A.depth < 910) (hh : A.handled = none)
    (hR : ∀ h' tk, Ext s.heap h' → R (.ok (.ret (.ref 311))) { s with heap := h', toks := tk }) :
    codeAny (model PW w) A (.call (.ref 320) ⟨[], []⟩) R s := by
  have O : Owns s.heap h₀ [] := .nil
  ktr_enter
  intro g L' h' ge hg0 gN F N X' T' l1
  replace F : Fr g L' h' (fun y => List.lookup y [(Str.ofString "iterable", .ref 312)]) := F
  have k9 : Ext s.heap g := fun b o e => ge b o e (by simp)
  (try dsimp only)
  (try k_fold)
  k_steps
  have F3 := ‹Fr g L' _ _›
  refine wpAny_call (extend0_spec (fun b o e => F3.keep _ _ (hg0 b o e)) X T (by k_room) hh fun h4 tk4 k4 => ?_)
  have F5 := fr_ext F3 k4
  have N5 : News g L' h4 [] := fun p hp => by cases hp
  clear F3
  k_steps
  exact hR _ _ (fun b o e => ‹Fr g L' _ _›.keep b o (k9 b o e))
end
section
open PySem PySem.W PyProof.Rows PySem.Calls
open Builtin Builtin.List
set_option maxHeartbeats 4000000
/-- no running listing is at an address that holds nothing -/
abbrev Fresh (h : Heap) (g : List Code) : Prop := ∀ b, h.get? b = none → Clear g b
/-- the value v is written as t wherever there is room for d levels -/
def Shows (w : World) (h₀ : Heap) (as : List Addr) (d : Nat) (v : Value) (t : Str) : Prop :=
  ∀ (base : Nat), base + t.length ≤ sizeLine → ∀ (A : Around) (g : List Code) (E : Value → Shared → Prop) (s : Shared) (Q : Str → Shared → Prop), A.guards = some g → (∀ b ∈ as, Clear g b) → Fresh s.heap g → A.units + 20 * d < 9800 → A.depth + 4 * d < 900 → A.handled = none → Ext h₀ s.heap →
    (∀ h' tk, Ext s.heap h' → Q t { s with heap := h', toks := tk }) → wpAny (model PW w) A (pyReprUnder base v) Q E s
theorem Shows.of_is {w : World} {h₀ : Heap} {as : List Addr} {d : Nat} {v : Value} {t : Str} (h : ReprIs PW w v t) : Shows w h₀ as d v t :=
  fun base hb A _ E s Q _ _ _ _ _ _ _ hQ => h base hb A E s Q fun tk => hQ s.heap tk fun _ _ e => e
theorem guards_loop {A : Around} {g : List Code} {args : Args} (hg : A.guards = some g) : (A.under (.builtin "list.__repr__.loop" args)).guards = some (.builtin "list.__repr__.loop" args :: g) := guards_under_guard (isGuard_list_loop _) hg
theorem depth_loop (A : Around) (args : Args) : (A.under (.builtin "list.__repr__.loop" args)).depth = A.depth + 1 := by
  have h1 : (Code.builtin "list.__repr__.loop" args).weight = 1 := by
    unfold Code.weight
    rw [isGuard_list_loop]
    first | rfl | simp [Code.frames, Code.isFrame, Code.isCreation, Code.isCaller]
  simp [Around.under, h1]
theorem handled_loop (A : Around) (args : Args) : (A.under (.builtin "list.__repr__.loop" args)).handled = A.handled := by
  first | rfl | simp [Around.under]
theorem mapSeq_push (vs : List Value) (v : Value) (c : Nat) : ∃ c', Obj.mapSeq (fun x => x.push v) (lObj vs c) = lObj (vs ++ [v]) c' := by
  have e : vs.toArray.push v = (vs ++ [v]).toArray := List.push_toArray ..
  unfold lObj
  rw [← e]
  exact ⟨_, rfl⟩
theorem loopD {w : World} {A : Around} {R : Result → Shared → Prop} {a P : Addr} {vs : List Value} {ts : List Str} {as : List Addr} {h₀ : Heap} {d base n : Nat} {g : List Code} (hne : @Ne Nat a P) (hg : A.guards = some g) (hcl : ∀ b ∈ as, Clear g b) (hu : A.units + 20 * d + 1 < 9800) (hd : A.depth + 4 * d + 1 < 900) (hh : A.handled = none)
    (hna : a ∉ as) (hP0 : h₀.get? P = none) (hlen : ts.length = vs.length) (hT : ∀ (i : Nat) (v : Value) (t : Str), vs[i]? = some v → ts[i]? = some t → Shows w h₀ as d v t) (hsz : base + (listText ts).length ≤ sizeLine) :
    ∀ (k i : Nat) (s : Shared) (c : Nat) (done : List (Str × Tok)), i + k = vs.length → Ext h₀ s.heap → Fresh s.heap g → s.heap.get? a = some (lObj vs n) → s.heap.get? P = some (lObj (strValues done) c) → done.map Prod.fst = ts.take i →
    (∀ h' u tk, (∀ b o, b ≠ P → s.heap.get? b = some o → h'.get? b = some o) → R (.ok (.ret (.str (listText ts) u))) { s with heap := h', toks := tk }) →
    codeAny (model PW w) A (.builtin "list.__repr__.loop" ⟨[.ref a, rawInt i, .ref P, rawInt ((base + piled (ts.take i) : Nat) : Int)], []⟩) R s := by
  have hpl := piled_le_listText ts
  have hlong : ∀ t ∈ ts, t.length ≤ sizeLine := fun t ht => by
    have := listText_mem_le ht
    omega
  intro k
  induction k with
  | zero =>
    intro i s c done hk x0 xf ha hP hdone hR
    refine codeAny_builtin F.entry_list_repr_loop ?_
    show wpAny _ _ («list.__repr__.loop» ⟨[.ref a, .int i 0, .ref P, .int ((base + piled (ts.take i) : Nat) : Int) 0], []⟩) _ _ s
    rw [repr_loop_tree]
    refine wpAny_bind (wpAny_listItems ha rfl ?_)
    have hnone : vs.toArray[(i : Int).toNat]? = none := by simp; omega
    simp only [hnone]
    unfold reprEnd
    refine wpAny_bind (wpAny_listItems hP rfl ?_)
    rw [List.toList_toArray, repr_fold]
    refine wpAny_bind (wpAny_pure ?_)
    have hall : done.map Prod.fst = ts := by rw [hdone, List.take_of_length_le (by omega)]
    rw [hall]
    refine wpAny_bind (wpAny_mkStr (wpAny_pure ?_) (by show (listText ts).length ≤ sizeLine; omega))
    exact hR s.heap _ _ fun _ _ _ e => e
  | succ k ih =>
    intro i s c done hk x0 xf ha hP hdone hR
    have hlt : i < vs.length := by omega
    have hv : vs[i]? = some vs[i] := List.getElem?_eq_getElem hlt
    have ht : ts[i]? = some (ts[i]'(by omega)) := List.getElem?_eq_getElem (by omega)
    generalize ts[i]'(by omega) = t at ht
    have hp1 := piled_take_succ ht
    have hp2 := piled_take_le ts (i + 1)
    refine codeAny_builtin F.entry_list_repr_loop ?_
    show wpAny _ _ («list.__repr__.loop» ⟨[.ref a, .int i 0, .ref P, .int ((base + piled (ts.take i) : Nat) : Int) 0], []⟩) _ _ s
    rw [repr_loop_tree]
    refine wpAny_bind (wpAny_listItems ha rfl ?_)
    have hsome : vs.toArray[(i : Int).toNat]? = some vs[i] := by simp [hlt]
    simp only [hsome]
    rw [Int.toNat_natCast]
    refine wpAny_bind (wpAny_holding (hT i _ t hv ht (base + piled (ts.take i) + 1) (by omega) _ _ _ _ _ (guards_loop hg) (fun b hb => (hcl b hb).cons (a := a) fun e => hna (e ▸ hb))
      (fun b hb => (xf b hb).cons (a := a) fun e => by rw [e, hb] at ha; cases ha) (by rw [units_under_list_loop]; omega) (by rw [depth_loop]; omega) (by rw [handled_loop]; exact hh) x0 fun h' tk hkp => ?_))
    refine wpAny_bind (wpAny_mkStr ?_ (hlong t (List.mem_of_getElem? ht)))
    refine wpAny_bind ?_
    show wpAny _ _ (updateSeq P _) _ _ _
    have hdl : done.length ≤ vs.length := by
      have := congrArg List.length hdone
      rw [List.length_map, List.length_take] at this
      omega
    have hvs : vs.length ≤ sizeLine := by
      have h1 : ∀ l : List Str, l.length ≤ piled l := by
        intro l
        induction l with
        | nil => exact Nat.le_refl _
        | cons x l ih => rw [piled_cons, List.length_cons]; omega
      have := h1 ts
      omega
    refine wpAny_updateSeq (hkp _ _ hP) rfl (wpAny_pure ⟨F.quiet_list_repr_loop _, ?_⟩) (by rw [List.size_toArray, strValues, List.length_map]; omega) (by rw [Array.size_push, List.size_toArray, strValues, List.length_map]; omega)
    have e1 : ((i : Int) + 1) = ((i + 1 : Nat) : Int) := by omega
    have e2 : base + piled (ts.take i) + (t.length + 2) = base + piled (ts.take (i + 1)) := by omega
    rw [e1, e2]
    have kp : ∀ b o, b ≠ P → s.heap.get? b = some o → (h'.update P (Obj.mapSeq fun x => x.push (.str t tk))).get? b = some o := fun b o hb e => (Heap.get?_update_other _ _ (fun q => hb q.symm)).trans (hkp _ _ e)
    obtain ⟨c', hc'⟩ := mapSeq_push (strValues done) (.str t tk) c
    refine ih (i + 1) _ c' (done ++ [(t, tk)]) (by omega) (fun b o e => kp b o (ne_of_none e hP0) (x0 b o e)) (fun b hb => xf b ?_) (kp _ _ hne ha) ((Heap.get?_update_self _ (hkp _ _ hP) rfl).trans ?_) (by rw [List.map_append, hdone, List.take_add_one, ht]; rfl) fun h'' u tk' hk'' => hR h'' u tk' fun b o hb e => hk'' b o hb (kp b o hb e)
    · cases q : s.heap.get? b with
      | none => rfl
      | some o =>
        by_cases e : b = P
        · subst e; rw [Heap.get?_update_self _ (hkp _ _ hP) rfl] at hb; cases hb
        · rw [kp b o e q] at hb; cases hb
    · refine congrArg some (Eq.trans hc' ?_)
      simp [strValues]
end
section
open PySem PySem.W PyProof.Rows PySem.Calls
open Builtin Builtin.List
set_option maxHeartbeats 4000000
theorem listAt {w : World} {A : Around} {R : Result → Shared → Prop} {s : Shared} {a : Addr} {vs : List Value} {ts : List Str} {as : List Addr} {h₀ : Heap} {d base n : Nat} {g : List Code} (ha : s.heap.get? a = some (lObj vs n)) (hg : A.guards = some g) (hca : Clear g a) (hcl : ∀ b ∈ as, Clear g b) (hfr : Fresh s.heap g) (hu : A.units + 20 * d + 1 < 9800) (hd : A.depth + 4 * d + 1 < 900) (hh : A.handled = none)
    (hna : a ∉ as) (x0 : Ext h₀ s.heap) (hlen : ts.length = vs.length) (hT : ∀ (i : Nat) (v : Value) (t : Str), vs[i]? = some v → ts[i]? = some t → Shows w h₀ as d v t) (hsz : base + (listText ts).length ≤ sizeLine)
    (hR : ∀ h' u tk, Ext s.heap h' → R (.ok (.ret (.str (listText ts) u))) { s with heap := h', toks := tk }) :
    wpAny (model PW w) A.in1 (Builtin.listReprAt base ⟨[.ref a], []⟩) (fun fin s' => match fin with | .done f => R (.ok f) s' | .again c' => c'.quiet = true ∧ codeAny (model PW w) A c' R s') (fun e s' => R (.error e) s') s := by
  cases vs with
  | nil =>
    have e : ts = [] := List.eq_nil_of_length_eq_zero hlen
    subst e
    rw [listText_nil] at hR
    exact wpAny_list_repr_empty ha rfl (hR s.heap _ _ fun _ _ e => e)
  | cons x l =>
    have hP0 : h₀.get? s.heap.objs.size = none := by
      cases q : h₀.get? s.heap.objs.size with
      | none => rfl
      | some o => exact absurd (Heap.lt_size (x0 _ _ q)) (Nat.lt_irrefl _)
    refine wpAny_list_repr_head (A := A.in1) hg (fun v rest kw hm => listSameRef_of_ne (hca _ _ _ _ hm)) ha rfl ?_
    refine wpAny_bind (m := newList []) (wpAny_newObj_type ?_)
    refine wpAny_pure ⟨F.quiet_list_repr_loop _, ?_⟩
    refine loopD (P := s.heap.objs.size) (Nat.ne_of_lt (Heap.lt_size ha)) hg hcl hu hd hh hna hP0 hlen hT hsz _ 0 _ _ [] (Nat.zero_add _) (fun b o e => Heap.get?_push_of_some _ (x0 _ _ e)) (fun b hb => hfr b (none_of (fun b o e => Heap.get?_push_of_some _ e) hb)) (Heap.get?_push_of_some _ ha) (Heap.get?_push_size _ rfl) rfl fun h' u tk hk => hR h' u tk fun b o e => hk b o (Nat.ne_of_lt (Heap.lt_size e)) (Heap.get?_push_of_some _ e)
section
variable {w : World} {A : Around} {E : Value → Shared → Prop} {s : Shared} {a : Addr} {vs : List Value} {ts : List Str} {as : List Addr} {h₀ : Heap} {d base n : Nat} {g : List Code}
theorem listCall {Q : Value → Shared → Prop} (ha : s.heap.get? a = some (lObj vs n)) (hg : A.guards = some g) (hca : Clear g a) (hcl : ∀ b ∈ as, Clear g b) (hfr : Fresh s.heap g) (hu : A.units + 20 * d + 1 < 9800) (hd : A.depth + 4 * d + 1 < 900) (hh : A.handled = none)
    (hna : a ∉ as) (x0 : Ext h₀ s.heap) (hlen : ts.length = vs.length) (hT : ∀ (i : Nat) (v : Value) (t : Str), vs[i]? = some v → ts[i]? = some t → Shows w h₀ as d v t) (hsz : (listText ts).length ≤ sizeLine)
    (hQ : ∀ h' u tk, Ext s.heap h' → Q (.str (listText ts) u) { s with heap := h', toks := tk }) :
    wpAny (model PW w) A (call (.builtin "list.__repr__") [.ref a]) Q E s :=
  wpAny_call (codeAny_call_builtin F.slot_list_repr.plain F.entry_list_repr (F.slot_list_repr.check _ _ _ _ _ _ _ _ ⟨_, ha, rfl⟩ (F.args_list_repr_1 _)
    (listAt (base := 0) (R := callEnd Q E) ha hg hca hcl hfr hu hd hh hna x0 hlen hT (by omega) hQ)))
theorem listUnder {Q : Str → Shared → Prop} (ha : s.heap.get? a = some (lObj vs n)) (hg : A.guards = some g) (hca : Clear g a) (hcl : ∀ b ∈ as, Clear g b) (hfr : Fresh s.heap g) (hu : A.units + 20 * d + 1 < 9800) (hd : A.depth + 4 * d + 1 < 900) (hh : A.handled = none)
    (hna : a ∉ as) (x0 : Ext h₀ s.heap) (hlen : ts.length = vs.length) (hT : ∀ (i : Nat) (v : Value) (t : Str), vs[i]? = some v → ts[i]? = some t → Shows w h₀ as d v t) (hsz : base + (listText ts).length ≤ sizeLine)
    (hQ : ∀ h' tk, Ext s.heap h' → Q (listText ts) { s with heap := h', toks := tk }) :
    wpAny (model PW w) A (pyReprUnder base (.ref a)) Q E s := by
  have hc9 := cLine_is
  refine wpAny_pyReprUnder_ref (by omega) (wpAny_pyReprObjUnder_twin (twin := "list.__repr__.under") ⟨_, ha, rfl⟩ F.slot_list_repr.toG rfl (by omega) ?_)
  exact call_twin_plain F.plain_list_repr_under F.entry_list_repr_under F.check_list_repr_under ⟨_, ha, rfl⟩ F.slot_list_repr.toG (F.args_list_repr_1 _)
    (listAt (R := callEnd _ E) ha hg hca hcl hfr hu hd hh hna x0 hlen hT hsz fun h' u tk k => ⟨⟨_, _, rfl⟩, _, _, rfl, hQ h' tk k⟩)
theorem strCall {v : Value} {Q : Value → Shared → Prop} (h : wpAny (model PW w) A.in1.in1 (PySem.Builtin.Str.strOf v) (fun r s₁ => ∃ y u, r = .str y u ∧ Q r s₁) E s) : wpAny (model PW w) A (call (.type "str") [v]) Q E s := by
  refine callType_codes (T := "str") (Bi := Builtin.«object.__init__») (Q₁ := fun r s₁ => ∃ y u, r = .str y u ∧ Q r s₁) PySem.F.called_str (PySem.F.typeCall_str_1 _) PySem.F.entry_object_init ?_ ?_
  · refine codeAny_of_tree ?_
    show wpAny _ A.in1.in1 (do checkBuiltinCall "str.__new__" ⟨[.type "str", v], []⟩; again (.builtin "str.__new__" ⟨[.type "str", v], []⟩)) _ _ s
    refine wpAny_bind (wpAny_of_eq (PySem.F.newCall_str_1 _) (wpAny_pure ⟨plainId_quiet (by decide +kernel) _, codeAny_builtin PySem.F.entry_str_new ?_⟩))
    rw [Around.under_plainId (by decide +kernel) _]
    rw [str_new_tree]
    refine wpAny_bind (wpAny_pure ?_)
    refine wpAny_bind (wpAny_of_eq isSubtype_str_str ?_)
    exact wpAny_bind (wpAny_mono h (fun r s₁ hr => wpAny_pure hr) fun _ _ y => y)
  · rintro obj s₁ ⟨y, u, rfl, hq⟩
    exact ⟨typeIs_str _ _ _, PySem.F.args_object_init_2 _ _, object_init_meets PySem.F.called_str.init.lookup PySem.F.called_str.made (by decide) PW w A.in1 _ s₁ ⟨typeIs_str _ _ _, rfl, hq⟩⟩
theorem listStr {Q : Value → Shared → Prop} (ha : s.heap.get? a = some (lObj vs n)) (hg : A.guards = some g) (hca : Clear g a) (hcl : ∀ b ∈ as, Clear g b) (hfr : Fresh s.heap g) (hu : A.units + 20 * d + 5 < 9800) (hd : A.depth + 4 * d + 1 < 900) (hh : A.handled = none)
    (hna : a ∉ as) (x0 : Ext h₀ s.heap) (hlen : ts.length = vs.length) (hT : ∀ (i : Nat) (v : Value) (t : Str), vs[i]? = some v → ts[i]? = some t → Shows w h₀ as d v t) (hsz : (listText ts).length ≤ sizeLine)
    (hQ : ∀ h' u tk, Ext s.heap h' → Q (.str (listText ts) u) { s with heap := h', toks := tk }) :
    wpAny (model PW w) A (call (.type "str") [.ref a]) Q E s := by
  have hc9 := cLine_is
  refine strCall (wpAny_strOf_slot rfl (by simp only [units_in1]; omega) ⟨_, ha, rfl⟩ F.slot_list_str F.slot_list_repr.toG ?_)
  exact listCall ha hg hca hcl hfr (by simp only [units_in1]; omega) hd hh hna x0 hlen hT hsz fun h' u tk k => ⟨_, _, rfl, _, _, rfl, hQ h' u tk k⟩
theorem Shows.list {as' : List Addr} (ha : h₀.get? a = some (lObj vs n)) (hna : a ∉ as) (hs : ∀ b ∈ a :: as, b ∈ as') (hlen : ts.length = vs.length) (hT : ∀ (i : Nat) (v : Value) (t : Str), vs[i]? = some v → ts[i]? = some t → Shows w h₀ as d v t) : Shows w h₀ as' (d + 1) (.ref a) (listText ts) := by
  intro base hb A g E s Q hg hcl hfr hu hd hh x0 hQ
  exact listUnder (x0 _ _ ha) hg (hcl _ (hs _ (.head _))) (fun b hb => hcl _ (hs _ (.tail _ hb))) hfr (by omega) (by omega) hh hna x0 hlen hT hb hQ
end
end
section
open PySem PySem.W PyProof.Rows PySem.Calls
open Builtin Builtin.Str
set_option maxHeartbeats 4000000
theorem field_zero {prog : Program} {w : World} {A : Around} {E : Value → Shared → Prop} {s : Shared} {id : String} {a : Array Value} {byName : PySem.Str → Sem Value} {v : Value} {Q : Value × Numbering → Shared → Prop} (ha : a[0]? = some v)
    (h : Q (v, .manual) s) : wpAny (model prog w) A (fieldObject id (some a) byName [48] .unset) Q E s := by
  unfold fieldObject
  refine wpAny_bind (wpAny_of_eq (a := some 0) rfl ?_)
  refine wpAny_bind (wpAny_of_eq (a := (some 0, .manual)) rfl ?_)
  simp only [ha, pure_bind]
  rw [KPc.range_list]
  exact wpAny_bind (wpAny_pure (wpAny_pure h))
theorem fmt_pvec {prog : Program} {w : World} {A : Around} {E : Value → Shared → Prop} {s : Shared} {t u : Tok} {tx : PySem.Str} {Q : Value → Shared → Prop} (hsz : tx.length ≤ 900000)
    (h : ∀ t' k, Q (.str ("pvector(" ++ tx ++ ")") t') { s with toks := k }) : wpAny (model prog w) A (call (.builtin "str.format") [.str (Str.ofString "pvector({0})") t, .str tx u]) Q E s := by
  refine' KFm.call_k ?kfmF ?kfmg ?kfmm ?_
  case kfmF => kfm_eq
  case kfmg => kfm_args
  case kfmm =>
    apply KPc.meets_of
    intro _ _ _ _ _ _ _
    unfold Builtin.«str.format»
    refine wpAny_bind (wpAny_of_eq (a := (_, _, _)) rfl ?_)
    refine wpAny_bind ?_
    unfold Builtin.Str.buildString
    refine wpAny_bind ?_
    rw [KPc.range_list]
    refine KFm.start ?_
    intro _ _
    refine KPc.turn ?_
    kpc_if
    kpc_check
    refine wpAny_bind (field_zero (by rfl) ?_)
    refine wpAny_bind (wpAny_holding (wpAny_of_eq (a := _) rfl ?_))
    kpc_if
    refine wpAny_bind (wpAny_pure ?_)
    kfm_val
    refine wpAny_bind (wpAny_of_eq (a := some _) rfl ?_)
    refine wpAny_pure ?_
    refine KFm.after_field (by kpc_g) (by kpc_text) (by kpc_obj) (by kfm_len) (by kpc_obj) (by kfm_cat2) (by kfm_rest) ?_
    intro _ _
    kfm_turns
  intro _ _
  exact h _ _
end
section
open PySem PySem.W PyProof.Rows PySem.Calls
set_option maxHeartbeats 4000000
theorem fresh_ShowC : True := by w_top off; trivial
theorem guards_deeper (A : Around) (env : Env) : (A.deeper env).guards = A.guards := rfl
theorem handled_deeper (A : Around) (env : Env) : (A.deeper env).handled = A.handled := rfl
theorem guards_in1 (A : Around) : A.in1.guards = A.guards := rfl
theorem clear_keep {g : List Code} {h h' : Heap} (f : Fresh h g) (k : Ext h h') : Fresh h' g := fun b hb => f b (none_of k hb)
theorem repr_spec {w : World} {mean : ExcName → Option Value} {mg mb : Str → Option Value} {h₀ h₁ : Heap} {s : Shared} {A : Around} {x : Addr} {items : List Value} {ts : List Str} {as : List Addr} {d : Nat} {gd : List Code} {R : Result → Shared → Prop}
    (st : h₀.StaysIn s.heap) (X : (atop.heap_39 w.params).In h₀) (T : TP mean mg mb h₀) (V : VecAt (Hp s.heap) x items) (hz : items.length ≤ 1500) (hd : A.depth + 4 * d < 896) (hu : A.units + 20 * d + 12 < 9800) (hh : A.handled = none)
    (hg : A.guards = some gd) (hcl : ∀ b ∈ as, Clear gd b) (hfr : Fresh s.heap gd) (hdom : ∀ b ∈ as, ∃ o, h₁.get? b = some o) (x1 : Ext h₁ s.heap) (hlen : ts.length = items.length) (hT : ∀ (i : Nat) (v : Value) (t : Str), items[i]? = some v → ts[i]? = some t → Shows w h₁ as d v t) (hsz : (listText ts).length ≤ 900000)
    (hR : ∀ h' u tk, Ext s.heap h' → R (.ok (.ret (.str ("pvector(" ++ listText ts ++ ")") u))) { s with heap := h', toks := tk }) :
    codeAny (model PW w) A (.call (.ref 99) ⟨[.ref x], []⟩) R s := by
  have O : Owns s.heap h₀ [] := .nil
  have V0 := V
  obtain ⟨dx, r, t, tS, tn, tO, rn, un, dn, chunks, tail, hx, hdx, hr, hc, ht, h32, he⟩ := V
  ktr_enter
  intro g L' h' ge hg0 gN F N X' T' l1
  replace F : Fr g L' h' (fun y => List.lookup y [(Str.ofString "self", .ref x)]) := F
  have ge' : Ext s.heap g := fun b o e => ge b o e (by simp)
  have I' := inst_of (ge' _ _ hx) (ge' _ _ hdx)
  (try dsimp only)
  (try k_fold)
  k_steps
  have F3 := ‹Fr g L' _ _›
  refine wpAny_call (tolist_spec (fun b o e => F3.keep _ _ (hg0 b o e)) X T (V0.mono fun a o e => F3.keep _ _ (ge' _ _ e)) hz (by k_room) hh fun l n h4 tk4 k4 n4 e4 => ?_)
  have F5 := fr_ext F3 k4
  have N5 : News g L' h4 [] := fun p hp => by cases hp
  have k5 : Ext s.heap h4 := fun b o e => F5.keep _ _ (ge' _ _ e)
  have ng : g.get? l = none := none_of F3.keep n4
  have ns : s.heap.get? l = none := none_of ge' ng
  clear F3
  k_steps
  refine listStr (h₀ := h₁) (as := as) (d := d) e4 (g := gd) hg (hfr _ ns) hcl (clear_keep hfr k5) (by simp only [units_deeper, units_in1]; omega) (by simp only [depth_deeper, depth_in1]; omega) hh (fun q => ?_) (fun b o e => k5 _ _ (x1 _ _ e)) hlen hT (by rw [sizeLine_eq]; omega) fun h6 u6 tk6 k6 => ?_
  · obtain ⟨o, ho⟩ := hdom _ q
    rw [x1 _ _ ho] at ns; cases ns
  have F7 := fr_ext F5 k6
  have N7 : News g L' h6 [] := fun p hp => by cases hp
  clear F5
  generalize listText ts = tx at hsz hR ⊢
  k_steps
  refine fmt_pvec hsz fun t8 k8 => ?_
  have F9 : Fr g L' { s with heap := h6, toks := k8 }.heap _ := F7
  clear F7
  k_steps
  exact hR _ _ _ (fun b o e => k6 _ _ (k5 _ _ e))
end
section
open PySem PySem.W PyProof.Rows PySem.Calls
set_option maxHeartbeats 4000000
theorem fresh_ShowD : True := by w_top off; trivial
theorem str_spec {w : World} {mean : ExcName → Option Value} {mg mb : Str → Option Value} {h₀ h₁ : Heap} {s : Shared} {A : Around} {x : Addr} {items : List Value} {ts : List Str} {as : List Addr} {d : Nat} {gd : List Code} {R : Result → Shared → Prop}
    (st : h₀.StaysIn s.heap) (X : (atop.heap_39 w.params).In h₀) (T : TP mean mg mb h₀) (V : VecAt (Hp s.heap) x items) (hz : items.length ≤ 1500) (hd : A.depth + 4 * d < 890) (hu : A.units + 20 * d + 20 < 9800) (hh : A.handled = none)
    (hg : A.guards = some gd) (hcl : ∀ b ∈ as, Clear gd b) (hfr : Fresh s.heap gd) (hdom : ∀ b ∈ as, ∃ o, h₁.get? b = some o) (x1 : Ext h₁ s.heap) (hlen : ts.length = items.length) (hT : ∀ (i : Nat) (v : Value) (t : Str), items[i]? = some v → ts[i]? = some t → Shows w h₁ as d v t) (hsz : (listText ts).length ≤ 900000)
    (hR : ∀ h' u tk, Ext s.heap h' → R (.ok (.ret (.str ("pvector(" ++ listText ts ++ ")") u))) { s with heap := h', toks := tk }) :
    codeAny (model PW w) A (.call (.ref 106) ⟨[.ref x], []⟩) R s := by
  have O : Owns s.heap h₀ [] := .nil
  have V0 := V
  obtain ⟨dx, r, t, tS, tn, tO, rn, un, dn, chunks, tail, hx, hdx, hr, hc, ht, h32, he⟩ := V
  ktr_enter
  intro g L' h' ge hg0 gN F N X' T' l1
  replace F : Fr g L' h' (fun y => List.lookup y [(Str.ofString "self", .ref x)]) := F
  have ge' : Ext s.heap g := fun b o e => ge b o e (by simp)
  have I' := inst_of (ge' _ _ hx) (ge' _ _ hdx)
  (try dsimp only)
  (try k_fold)
  k_steps
  have F3 := ‹Fr g L' _ _›
  have k3 : Ext s.heap h' := fun b o e => F3.keep _ _ (ge' _ _ e)
  refine wpAny_call (repr_spec (h₁ := h₁) (as := as) (d := d) (gd := gd) (ts := ts) (fun b o e => F3.keep _ _ (hg0 b o e)) X T (V0.mono fun a o e => F3.keep _ _ (ge' _ _ e)) hz (by simp only [depth_deeper]; omega) (by simp only [units_deeper]; omega) hh hg hcl (clear_keep hfr k3) hdom (fun b o e => k3 _ _ (x1 _ _ e)) hlen hT hsz fun h4 u4 tk4 k4 => ?_)
  have F5 := fr_ext F3 k4
  have N5 : News g L' h4 [] := fun p hp => by cases hp
  clear F3
  generalize listText ts = tx at hsz hR ⊢
  k_steps
  exact hR _ _ _ (fun b o e => F5.keep _ _ (ge' _ _ e))
theorem objUnder_K {prog : Program} {w : World} {A : Around} {E : Value → Shared → Prop} {s : Shared} {K : Frag} {x C f : Addr} {ox : Obj} {od : Option Obj} {b : Nat} {Q : Value → Shared → Prop} (hu : A.units < cLine) (X : K.In s.heap) (I : InstAt s.heap x ox C od) (hs : findIn K (.ref C) "__repr__" = some (some (.ref f))) (hf : isFn K (.ref f) = true)
    (h : wpAny (model prog w) A (call (.ref f) [.ref x]) (fun v s' => (∃ y u, v = .str y u) ∧ Q v s') E s) : wpAny (model prog w) A (pyReprObjUnder b (.ref x)) Q E s := by
  unfold pyReprObjUnder pyReprObjBy
  refine wpAny_bind (wpAny_cRoomFor hu ?_)
  refine wpAny_bind (wpAny_bind (I.type.here ((looks_findIn X hs).here ?_)))
  show wpAny _ _ (if (some (Value.ref f)).isNone = true then _ else _) _ _ _
  rw [if_neg (by simp)]
  refine wpAny_bind ?_
  simp only [callSpecialIfBoundBy?, bindSpecialIfBound?]
  refine wpAny_holding (wpAny_bind (wpAny_bind (wpAny_bind (I.type.here ((looks_findIn X hs).here ?_)))))
  refine wpAny_bind (wpAny_askSetting (wpAny_ite ?_))
  have fin : ∀ Q' : Option Value → Shared → Prop, (∀ v s', (∃ y u, v = .str y u) → Q v s' → Q' (some v) s') → wpAny (model prog w) A (call (.ref f) ([.ref x] ++ []) >>= fun v => pure (some v)) Q' E s := fun Q' k => wpAny_bind (wpAny_mono h (fun v s' h' => wpAny_pure (k _ _ h'.1 h'.2)) fun _ _ h' => h')
  have last : ∀ v s', (∃ y u, v = .str y u) → Q v s' → wpAny (model prog w) A (match some v with
      | some r => (do if ← isInstance r (.type "str") then pure r else raiseError "TypeError" s!"__repr__ returned non-string (type {← typeNameOf r})" : Sem Value)
      | none => unsupported "repr:special-get-raises") Q E s' := by
    rintro v s' ⟨y, u, rfl⟩ hq
    exact wpAny_bind (wpAny_isInstance (T := "str") (b := true) rfl isSubtype_str_str (wpAny_pure hq))
  split
  · exact wpAny_bind ((bind_fn X _ (beq_iff_eq.mp hf)).here (wpAny_pure (fin _ last)))
  · exact wpAny_tryCatch (wpAny_bind ((bind_fn X _ (beq_iff_eq.mp hf)).here (wpAny_pure (fin _ last))))
end
section
open PySem PySem.W PyProof.Rows PySem.Calls
set_option maxHeartbeats 4000000
theorem fresh_ShowE : True := by w_top off; trivial
theorem isfn99 {w : World} : isFn (atop.heap_39 w.params) (.ref 99) = true := by k_is
theorem isfn106 {w : World} : isFn (atop.heap_39 w.params) (.ref 106) = true := by k_is
theorem find99 {w : World} : findIn (atop.heap_39 w.params) (.ref 296) "__repr__" = some (some (.ref 99)) := by k_is
theorem find106 {w : World} : findIn (atop.heap_39 w.params) (.ref 296) "__str__" = some (some (.ref 106)) := by k_is
theorem VecAt.inst {h : Heap} {x : Addr} {items : List Value} (V : VecAt (Hp h) x items) : ∃ ox dx dn, InstAt h x ox 296 (some (dictOf [] dn)) ∧ ox.dict = some dx := by
  obtain ⟨dx, r, t, tS, tn, tO, rn, un, dn, chunks, tail, hx, hdx, hr, hc, ht, h32, he⟩ := V
  exact ⟨_, dx, dn, inst_of hx hdx, rfl⟩
section
variable {w : World} {mean : ExcName → Option Value} {mg mb : Str → Option Value} {h₀ h₁ : Heap} {x : Addr} {items : List Value} {ts : List Str} {as as' : List Addr} {d : Nat}
theorem Shows.vec (st : h₀.StaysIn h₁) (X : (atop.heap_39 w.params).In h₀) (T : TP mean mg mb h₀) (V : VecAt (Hp h₁) x items) (hz : items.length ≤ 1500) (hdom : ∀ b ∈ as', ∃ o, h₁.get? b = some o) (hs : ∀ b ∈ as, b ∈ as') (hlen : ts.length = items.length)
    (hT : ∀ (i : Nat) (v : Value) (t : Str), items[i]? = some v → ts[i]? = some t → Shows w h₁ as d v t) (hsz : (listText ts).length ≤ 900000) : Shows w h₁ as' (d + 1) (.ref x) ("pvector(" ++ listText ts ++ ")") := by
  intro base hb A g E s Q hg hcl hfr hu hd hh x0 hQ
  have hc9 := cLine_is
  have st' : h₀.StaysIn s.heap := fun b o e => x0 _ _ (st b o e)
  have V' := V.mono (G' := Hp s.heap) fun a o e => x0 _ _ e
  obtain ⟨ox, dx, dn, I, _⟩ := V'.inst
  refine wpAny_pyReprUnder_ref (by omega) (objUnder_K (by omega) (X.keeps st') I find99 isfn99 ?_)
  exact wpAny_call (repr_spec (h₁ := h₁) (as := as) (d := d) (gd := g) (ts := ts) st' X T V' hz (by omega) (by omega) hh hg (fun b hb => hcl _ (hs _ hb)) hfr (fun b hb => hdom _ (hs _ hb)) x0 hlen hT hsz fun h' u tk k => ⟨⟨_, _, rfl⟩, _, _, rfl, hQ h' tk k⟩)
/-- v, with what stands in G, is written as t -/
inductive Tells (w : World) (G : Addr → Obj → Prop) : List Addr → Nat → Value → Str → Prop
  | leaf {as : List Addr} {d : Nat} {v : Value} {t : Str} (h : ReprIs PW w v t) : Tells w G as d v t
  | list {as as' : List Addr} {d d' n : Nat} {a : Addr} {vs : List Value} {ts : List Str} (ha : G a (lObj vs n)) (hna : a ∉ as) (hs : ∀ b ∈ a :: as, b ∈ as') (hd : d < d') (hlen : ts.length = vs.length) (hi : ∀ (i : Nat) (v : Value) (t : Str), vs[i]? = some v → ts[i]? = some t → Tells w G as d v t) : Tells w G as' d' (.ref a) (listText ts)
  | vec {as as' : List Addr} {d d' : Nat} {x : Addr} {items : List Value} {ts : List Str} (V : VecAt G x items) (hz : items.length ≤ 1500) (hs : ∀ b ∈ as, b ∈ as') (hd : d < d') (hsz : (listText ts).length ≤ 900000) (hlen : ts.length = items.length) (hi : ∀ (i : Nat) (v : Value) (t : Str), items[i]? = some v → ts[i]? = some t → Tells w G as d v t) : Tells w G as' d' (.ref x) ("pvector(" ++ listText ts ++ ")")
theorem Tells.more {G : Addr → Obj → Prop} {d' : Nat} {v : Value} {t : Str} (H : Tells w G as d v t) (hs : ∀ b ∈ as, b ∈ as') (hd : d ≤ d') : Tells w G as' d' v t := by
  cases H with
  | leaf h => exact .leaf h
  | list ha hna hs1 hd1 hlen hi => exact .list ha hna (fun b hb => hs _ (hs1 b hb)) (by omega) hlen hi
  | vec V hz hs1 hd1 hsz hlen hi => exact .vec V hz (fun b hb => hs _ (hs1 b hb)) (by omega) hsz hlen hi
theorem Tells.mono {G G' : Addr → Obj → Prop} {v : Value} {t : Str} (k : ∀ a o, G a o → G' a o) (H : Tells w G as d v t) : Tells w G' as d v t := by
  induction H with
  | leaf h => exact .leaf h
  | list ha hna hs1 hd1 hlen hi ih => exact .list (k _ _ ha) hna hs1 hd1 hlen ih
  | vec V hz hs1 hd1 hsz hlen hi ih => exact .vec (V.mono k) hz hs1 hd1 hsz hlen ih
theorem Shows.up {d' : Nat} {v : Value} {t : Str} (H : Shows w h₁ as d v t) (hd : d ≤ d') : Shows w h₁ as d' v t :=
  fun base hb A g E s Q hg hcl hfr hu hd hh x0 hQ => H base hb A g E s Q hg hcl hfr (by omega) (by omega) hh x0 hQ
theorem Tells.shows {G : Addr → Obj → Prop} {v : Value} {t : Str} (hG : ∀ a o, G a o → h₁.get? a = some o) (st : h₀.StaysIn h₁) (X : (atop.heap_39 w.params).In h₀) (T : TP mean mg mb h₀) (H : Tells w G as d v t) (hdom : ∀ b ∈ as, ∃ o, h₁.get? b = some o) : Shows w h₁ as d v t := by
  induction H with
  | leaf h => exact Shows.of_is h
  | list ha hna hs1 hd1 hlen hi ih => exact (Shows.list (hG _ _ ha) hna hs1 hlen fun i v t e1 e2 => ih i v t e1 e2 fun b hb => hdom _ (hs1 _ (.tail _ hb))).up hd1
  | vec V hz hs1 hd1 hsz hlen hi ih => exact (Shows.vec st X T (V.mono hG) hz hdom hs1 hlen (fun i v t e1 e2 => ih i v t e1 e2 fun b hb => hdom _ (hs1 _ hb)) hsz).up hd1
end
end
section
open PySem PySem.W PyProof.Rows PySem.Calls
set_option maxHeartbeats 4000000
theorem fresh_ShowF : True := by w_top off; trivial
/-- the vector at x is written as t -/
structure TellV (w : World) (G : Addr → Obj → Prop) (as : List Addr) (d : Nat) (x : Addr) (items : List Value) (ts : List Str) : Prop where
  V : VecAt G x items
  hz : items.length ≤ 1500
  hsz : (listText ts).length ≤ 900000
  hlen : ts.length = items.length
  hi : ∀ (i : Nat) (v : Value) (t : Str), items[i]? = some v → ts[i]? = some t → Tells w G as d v t
abbrev vText (ts : List Str) : Str := "pvector(" ++ listText ts ++ ")"
theorem vText_len (ts : List Str) : (vText ts).length = (listText ts).length + 9 := by
  show ((("pvector(" : Str) ++ listText ts) ++ (")" : Str)).length = _
  rw [strLen_append, strLen_append]
  have h1 : ("pvector(" : Str).length = 8 := by decide +kernel
  have h2 : (")" : Str).length = 1 := by decide +kernel
  omega
theorem TellV.tells {w : World} {G : Addr → Obj → Prop} {as : List Addr} {d : Nat} {x : Addr} {items : List Value} {ts : List Str} (H : TellV w G as d x items ts) : Tells w G as (d + 1) (.ref x) (vText ts) := .vec H.V H.hz (fun _ h => h) (Nat.lt_succ_self _) H.hsz H.hlen H.hi
section
variable {w : World} {mean : ExcName → Option Value} {mg mb : Str → Option Value} {h₀ : Heap} {L : Addr} {m : Str → Option Value} {news : List (Addr × Obj)} {s : Shared} {A : Around} {x : Addr} {items : List Value} {ts : List Str} {as : List Addr} {d : Nat} {G : Addr → Obj → Prop} {Q E : Value → Shared → Prop}
theorem strV_N (F : Fr h₀ L s.heap m) (X : (atop.heap_39 w.params).In h₀) (T : TP mean mg mb h₀) (N : News h₀ L s.heap news) (H : TellV w G as d x items ts) (hG : ∀ a o, G a o → s.heap.get? a = some o) (hdom : ∀ b ∈ as, ∃ o, s.heap.get? b = some o) (hd : A.depth + 4 * d < 890) (hu : A.units + 20 * d + 30 < 9800) (hh : A.handled = none) (hg : A.guards = some [])
    (h : ∀ h' u tk, Fr h₀ L h' m → News h₀ L h' news → Q (.str (vText ts) u) { s with heap := h', toks := tk }) : wpAny (model PW w) A (call (.type "str") [.ref x]) Q E s := by
  have hc9 := cLine_is
  have V := H.V.mono hG
  obtain ⟨ox, dx, dn, I, _⟩ := V.inst
  refine kso_call (by simp only [units_in1]; omega) (X.keeps F.keep) I find106 isfn106 (wpAny_call (str_spec (h₁ := s.heap) (as := as) (d := d) (gd := []) (ts := ts) F.keep X T V H.hz hd (by simp only [units_in1]; omega) hh hg (fun b _ => Clear.nil b) (fun b _ => Clear.nil b) hdom (fun b o e => e) H.hlen (fun i v t e1 e2 => (H.hi i v t e1 e2).shows hG F.keep X T hdom) H.hsz fun h' u tk k => ?_))
  exact h h' u tk (fr_ext F k) (news_ext N k)
theorem reprV_N (F : Fr h₀ L s.heap m) (X : (atop.heap_39 w.params).In h₀) (T : TP mean mg mb h₀) (N : News h₀ L s.heap news) (H : TellV w G as d x items ts) (hG : ∀ a o, G a o → s.heap.get? a = some o) (hdom : ∀ b ∈ as, ∃ o, s.heap.get? b = some o) (hd : A.depth + 4 * d < 890) (hu : A.units + 20 * d + 30 < 9800) (hh : A.handled = none) (hg : A.guards = some [])
    (h : ∀ h' u tk, Fr h₀ L h' m → News h₀ L h' news → Q (.str (vText ts) u) { s with heap := h', toks := tk }) : wpAny (model PW w) A (call (.builtin "repr") [.ref x]) Q E s := by
  have hc9 := cLine_is
  have V := H.V.mono hG
  obtain ⟨ox, dx, dn, I, _⟩ := V.inst
  refine repr_K (by simp only [units_in1]; omega) F X I find99 isfn99 (wpAny_call (repr_spec (h₁ := s.heap) (as := as) (d := d) (gd := []) (ts := ts) F.keep X T V H.hz (by simp only [depth_in1]; omega) (by simp only [units_in1]; omega) hh hg (fun b _ => Clear.nil b) (fun b _ => Clear.nil b) hdom (fun b o e => e) H.hlen (fun i v t e1 e2 => (H.hi i v t e1 e2).shows hG F.keep X T hdom) H.hsz fun h' u tk k => ?_))
  exact h h' u tk (fr_ext F k) (news_ext N k)
theorem strL_N {l : Addr} {n : Nat} {u3 : Tok} (F : Fr h₀ L s.heap m) (X : (atop.heap_39 w.params).In h₀) (T : TP mean mg mb h₀) (N : News h₀ L s.heap news) (H : TellV w G as d x items ts) (hG : ∀ a o, G a o → s.heap.get? a = some o) (hdom : ∀ b ∈ as, ∃ o, s.heap.get? b = some o) (hl : s.heap.get? l = some (lObj [.ref x, .int 3 u3] n)) (hla : l ∉ as)
    (hd : A.depth + 4 * d < 880) (hu : A.units + 20 * d + 40 < 9800) (hh : A.handled = none) (hg : A.guards = some [])
    (h : ∀ h' u tk, Fr h₀ L h' m → News h₀ L h' news → Q (.str (listText [vText ts, Str.ofString "3"]) u) { s with heap := h', toks := tk }) : wpAny (model PW w) A (call (.type "str") [.ref l]) Q E s := by
  have hz : (listText [vText ts, Str.ofString "3"]).length ≤ sizeLine := by
    have h1 := H.hsz
    have h2 := listText_len_le [vText ts, Str.ofString "3"]
    have h3 := vText_len ts
    simp only [List.map_cons, List.map_nil, List.sum_cons, List.sum_nil, List.length_cons, List.length_nil] at h2
    rw [sizeLine_eq]
    have h4 : (Str.ofString "3").length = 1 := by decide +kernel
    omega
  refine listStr (h₀ := s.heap) (as := as) (d := d + 1) (g := []) hl hg (Clear.nil _) (fun b _ => Clear.nil b) (fun b _ => Clear.nil b) (by omega) (by omega) hh hla (fun b o e => e) rfl (fun i v t e1 e2 => ?_) hz fun h' u tk k => h h' u tk (fr_ext F k) (news_ext N k)
  match i, e1, e2 with
  | 0, e1, e2 =>
    cases e1; cases e2
    exact H.tells.shows hG F.keep X T hdom
  | 1, e1, e2 =>
    cases e1; cases e2
    exact Shows.of_is (ReprIs.int u3 (by decide +kernel))
  | i + 2, e1, e2 => cases e1
end
end
section
open PySem PySem.W PyProof.Rows PySem.Calls
set_option maxHeartbeats 4000000
theorem fresh_Close : True := by w_top off; trivial
theorem pop_N {prog : Program} {w : World} {A : Around} {E : Value → Shared → Prop} {s : Shared} {h₀ : Heap} {L D : Addr} {m : Str → Option Value} {news news' : List (Addr × Obj)} {p : List Value} {y : Value} {n : Nat} {Q : Value → Shared → Prop} (F : Fr h₀ L s.heap m) (N : News h₀ L s.heap news) (U : Upd D (lObj (p ++ [y]) n) (lObj p (n + 1)) news news') (hz : p.length ≤ 8000)
    (h : ∀ h', Fr h₀ L h' m → News h₀ L h' news' → Q y { s with heap := h' }) : wpAny (model prog w) A (call (.builtin "list.pop") [.ref D]) Q E s :=
  kl_pop (its := (p ++ [y]).toArray) F N (p := p) (y := y) (by simpa using kpa_last y p) U (by rw [List.toList_toArray, List.length_append, sizeLine_eq]; show p.length + 1 ≤ _; omega) h
local macro_rules | `(tactic| walk_at "call builtin:list.pop") => `(tactic| (k_here; (with_reducible show wpAny _ _ (call (Value.builtin _) [Value.ref _]) _ _ _); k_dflt (refine' pop_N ?F ?N ?U ?z ?_; (case F => k_asm); (case N => k_asm); (case U => k_upd); (case z => omega); k_whole); intro h' F' N'; (try dsimp only at N'); (try k_sweep)))
local macro_rules | `(tactic| walk_at "binaryOp Add str str") => `(tactic| (k_here; (with_reducible show wpAny _ _ (binaryOp Operator.Add (Value.str _ _) (Value.str _ _)) _ _ _); k_dflt (refine' PyProof.Rows.add_str ?_ ?z; (case z => ((try simp only [strLen_append]); omega)); k_whole); intro _ _; (try k_sweep)))
abbrev tObj (vs : List Value) (n : Nat) : Obj := { cls := .type "tuple", data := .seq vs.toArray n }
theorem close_spec {w : World} {mean : ExcName → Option Value} {mg mb : Str → Option Value} {h₀ : Heap} {s : Shared} {A : Around} {kA tA xA row tr : Addr} {kd : Int} {kt : Tok} {ks rs xs vs tv : List Value} {n1 n2 n3 rn tn : Nat} {ts : List Str} {R : Result → Shared → Prop}
    (st : h₀.StaysIn s.heap) (X : (atop.heap_39 w.params).In h₀) (T : TP mean mg mb h₀) (O : Owns s.heap h₀ [(kA, lObj (ks ++ [.int kd kt]) n1), (tA, lObj (rs ++ [.ref row]) n2), (xA, lObj (xs ++ [.ref tr]) n3)])
    (kt' : @Ne Nat kA tA) (kx : @Ne Nat kA xA) (tx : @Ne Nat tA xA) (hr : s.heap.get? row = some (lObj vs rn)) (r1 : @Ne Nat row kA) (r2 : @Ne Nat row tA) (r3 : @Ne Nat row xA) (htr : s.heap.get? tr = some (lObj tv tn)) (t1 : @Ne Nat tr kA) (t2 : @Ne Nat tr tA) (t3 : @Ne Nat tr xA)
    (hts : StrsAre tv ts) (hz : vs.length ≤ 850) (hw : (ts.map (·.length)).sum + ts.length ≤ 800000) (hk : ks.length ≤ 100) (hrs : rs.length ≤ 100) (hxs : xs.length ≤ 100) (hkd : kd = 0 ∨ kd = 1) (hd : A.depth < 900) (hh : A.handled = none)
    (hR : ∀ h' tk p pn thing u n1' n2' n3' (tl : List (Addr × Obj)), But [kA, tA, xA] s.heap h' → h'.get? kA = some (lObj ks n1') → h'.get? tA = some (lObj rs n2') → h'.get? xA = some (lObj xs n3') → s.heap.get? p = none →
      (kd = 1 ∧ thing = .ref row ∧ h'.get? p = some (tObj [thing, .str (listText ts) u] pn) ∧ tl = [] ∨
        kd = 0 ∧ ∃ y, thing = .ref y ∧ h'.get? p = some (tObj [thing, .str (vText ts) u] pn) ∧ (∀ q ∈ tl, s.heap.get? q.1 = none ∧ h'.get? q.1 = some q.2) ∧ VecAt (fun a o => (a, o) ∈ tl ∨ h₀.get? a = some o) y vs) →
      R (.ok (.ret (.ref p))) { s with heap := h', toks := tk }) :
    codeAny (model PW w) A (.call (.ref 327) ⟨[.ref kA, .ref tA, .ref xA], []⟩) R s := by
  ktr_enter
  intro g L' h' ge hg0 gN F N X' T' l1
  replace F : Fr g L' h' (fun y => List.lookup y [(Str.ofString "texts", .ref xA), (Str.ofString "things", .ref tA), (Str.ofString "kinds", .ref kA)]) := F
  have ge3 : ∀ b o, s.heap.get? b = some o → @Ne Nat b kA → @Ne Nat b tA → @Ne Nat b xA → g.get? b = some o := fun b o e a1 a2 a3 => ge _ _ e (by simp only [List.map_cons, List.map_nil, List.mem_cons, List.not_mem_nil, or_false, not_or]; exact ⟨a1, a2, a3⟩)
  have hr' := ge3 _ _ hr r1 r2 r3
  have htr' := ge3 _ _ htr t1 t2 t3
  have htl : g.IsList tr tv.toArray := isList_of htr'
  (try dsimp only)
  (try k_fold)
  k_steps
  have F3 := ‹Fr g L' _ _›
  have N3 := ‹News g L' _ _›
  refine join_listW (isList_of (F3.keep _ _ htr')) hts (by decide +kernel) (by omega) fun t3 k3 => ?_
  have F4 : Fr g L' { s with heap := _, toks := k3 }.heap _ := F3
  have N4 : News g L' { s with heap := _, toks := k3 }.heap _ := N3
  clear F3 N3
  have eL : listText ts = Str.ofString "[" ++ Txt.join (Str.ofString ", ") ts ++ Str.ofString "]" := (listText_eq_join ts).trans (by rw [show Txt.join (Str.ofString ", ") ts = Str.join ", " ts from StrLaws.glued_eq_join _ _])
  have hJ : (listText ts).length ≤ 1700000 := by
    have := listText_len_le ts
    omega
  rw [eL] at hR hJ
  have hS := sizeLine_eq
  have s1 : (Str.ofString "[").length = 1 := by decide +kernel
  have s2 : (Str.ofString "]").length = 1 := by decide +kernel
  have s3 : (Str.ofString "pvector(").length = 8 := by decide +kernel
  have s4 : (Str.ofString ")").length = 1 := by decide +kernel
  rw [strLen_append, strLen_append] at hJ
  have eV : vText ts = Str.ofString "pvector(" ++ (Str.ofString "[" ++ Txt.join (Str.ofString ", ") ts ++ Str.ofString "]") ++ Str.ofString ")" := by rw [vText, eL]
  rw [eV] at hR
  generalize Txt.join (Str.ofString ", ") ts = J at hR hJ ⊢
  have nn : ∀ b, g.get? b = none → @Ne Nat b kA → @Ne Nat b tA → @Ne Nat b xA → s.heap.get? b = none := fun b e a1 a2 a3 => none_off ge e (by simp only [AllNe, and_true]; exact ⟨a1.symm, a2.symm, a3.symm⟩)
  rcases hkd with rfl | rfl
  · k_steps
    have F5 := ‹Fr g L' _ _›
    have N5 := ‹News g L' _ _›
    refine wpAny_call (pvec_spec (fun b o e => F5.keep _ _ (hg0 b o e)) X T (F5.keep _ _ hr') hz (by k_room) hh fun y tl h6 tk6 k6 f6 V => ?_)
    have F7 := fr_ext F5 k6
    have hb : ∀ q ∈ tl, (q.1 ≠ L' ∧ g.get? q.1 = none) ∧ s.heap.get? q.1 = none := by
      intro q hq
      have e1 := (f6 q hq).1
      have e2 : g.get? q.1 = none := none_of F5.keep e1
      refine ⟨⟨fun z => ?_, e2⟩, nn _ e2 (fun z => ?_) (fun z => ?_) fun z => ?_⟩
      · obtain ⟨oL, _, _, hL, _⟩ := F5.ns
        rw [z, hL] at e1; cases e1
      · have z1 := (N5 _ (.head _)).1; rw [← show q.1 = kA from z, e1] at z1; cases z1
      · have z1 := (N5 _ (.tail _ (.head _))).1; rw [← show q.1 = tA from z, e1] at z1; cases z1
      · have z1 := (N5 _ (.tail _ (.tail _ (.head _)))).1; rw [← show q.1 = xA from z, e1] at z1; cases z1
    have N7 : News g L' h6 ((kA, lObj ks (n1 + 1)) :: (tA, lObj rs (n2 + 1)) :: (xA, lObj xs (n3 + 1)) :: tl) := by
      have N6 := news_ext N5 k6
      exact news_cons (N6 _ (.head _)).1 (N6 _ (.head _)).2 (news_cons (N6 _ (.tail _ (.head _))).1 (N6 _ (.tail _ (.head _))).2 (news_cons (N6 _ (.tail _ (.tail _ (.head _)))).1 (N6 _ (.tail _ (.tail _ (.head _)))).2 fun q hq => ⟨(f6 q hq).2, (hb q hq).1⟩))
    clear F5 N5
    k_steps
    have F9 := ‹Fr g L' _ _›
    have N9 := ‹News g L' _ _›
    refine hR _ _ _ 0 (.ref y) _ _ _ _ tl (but_of O ge F9 (forall3 (.inl (.head _)) (.inl (.tail _ (.head _))) (.inl (.tail _ (.tail _ (.head _)))))) (N9 _ (.tail _ (.head _))).1 (N9 _ (.tail _ (.tail _ (.head _)))).1 (N9 _ (.tail _ (.tail _ (.tail _ (.head _))))).1 (nn _ (N9 _ (.head _)).2.2 ?_ ?_ ?_) (.inr ⟨rfl, y, rfl, (N9 _ (.head _)).1, fun q hq => ⟨(hb q hq).2, (N9 _ (.tail _ (.tail _ (.tail _ (.tail _ hq))))).1⟩, V⟩)
    all_goals (refine neN ?_; omega)
  · k_steps
    have F9 := ‹Fr g L' _ _›
    have N9 := ‹News g L' _ _›
    refine hR _ _ _ 0 (.ref row) _ _ _ _ [] (but_of O ge F9 (forall3 (.inl (.head _)) (.inl (.tail _ (.head _))) (.inl (.tail _ (.tail _ (.head _)))))) (N9 _ (.tail _ (.head _))).1 (N9 _ (.tail _ (.tail _ (.head _)))).1 (N9 _ (.tail _ (.tail _ (.tail _ (.head _))))).1 (nn _ (N9 _ (.head _)).2.2 ?_ ?_ ?_) (.inl ⟨rfl, rfl, (N9 _ (.head _)).1, rfl⟩)
    all_goals (refine neN ?_; omega)
end
section
open PySem PySem.W PyProof.Rows PySem.Calls
set_option maxHeartbeats 4000000
/-- one open row of the law, with its texts -/
structure Lvl where
  k : Int
  kt : Tok
  row : Addr
  vs : List Value
  rn : Nat
  tr : Addr
  tv : List Value
  tn : Nat
  ts : List Str
abbrev kvs (l : List Lvl) : List Value := l.map fun x => .int x.k x.kt
abbrev rvs (l : List Lvl) : List Value := l.map fun x => Value.ref x.row
abbrev xvs (l : List Lvl) : List Value := l.map fun x => Value.ref x.tr
abbrev objs (l : List Lvl) : List (Addr × Obj) := l.flatMap fun x => [(x.row, lObj x.vs x.rn), (x.tr, lObj x.tv x.tn)]
abbrev act (kA tA xA : Addr) (l : List Lvl) : List Addr := kA :: tA :: xA :: (objs l).map Prod.fst
abbrev Frz (h₀ : Heap) (fr : List (Addr × Obj)) : Addr → Obj → Prop := fun a o => (a, o) ∈ fr ∨ h₀.get? a = some o
structure LawSt (w : World) (h₀ : Heap) (kA tA xA : Addr) (d N P : Nat) (low : List Lvl) (top : Lvl) (fr : List (Addr × Obj)) (cl : List Addr) : Prop where
  nd : (act kA tA xA (low ++ [top])).Nodup
  off : ∀ p ∈ fr, p.1 ∉ act kA tA xA (low ++ [top])
  hk : ∀ x ∈ low ++ [top], x.k = 0 ∨ x.k = 1
  k0 : ∀ x, (low ++ [top]).head? = some x → x.k = 0
  hs : ∀ x ∈ low ++ [top], StrsAre x.tv x.ts ∧ x.ts.length = x.vs.length ∧ ∀ (j : Nat) (v : Value) (t : Str), x.vs[j]? = some v → x.ts[j]? = some t → Tells w (Frz h₀ fr) cl d v t
  hl : low.length ≤ 7
  hz : ∀ x ∈ low ++ [top], x.vs.length ≤ N
  hp : ((low ++ [top]).map fun x => piled x.ts).sum ≤ P
  hcl : ∀ b ∈ cl, ∃ o, (b, o) ∈ fr
abbrev led (kA tA xA : Addr) (nk nt nx : Nat) (low : List Lvl) (top : Lvl) (fr : List (Addr × Obj)) : List (Addr × Obj) :=
  (kA, lObj (kvs low ++ [.int top.k top.kt]) nk) :: (tA, lObj (rvs low ++ [.ref top.row]) nt) :: (xA, lObj (xvs low ++ [.ref top.tr]) nx) :: (top.row, lObj top.vs top.rn) :: (top.tr, lObj top.tv top.tn) :: (objs low ++ fr)
theorem objs_append (a b : List Lvl) : objs (a ++ b) = objs a ++ objs b := List.flatMap_append
theorem strs_snoc {vs : List Value} {ss : List Str} {t : Str} {u : Tok} (h : StrsAre vs ss) : StrsAre (vs ++ [.str t u]) (ss ++ [t]) := by
  induction h with
  | nil => exact .cons t u .nil
  | cons y t _ ih => exact .cons y t ih
section
variable {w : World} {h₀ : Heap} {kA tA xA : Addr} {d N P nk nt nx : Nat} {low : List Lvl} {top : Lvl} {fr : List (Addr × Obj)} {cl : List Addr}
theorem LawSt.up {d' N' P' : Nat} (S : LawSt w h₀ kA tA xA d N P low top fr cl) (hd : d ≤ d') (hN : N ≤ N') (hP : P ≤ P') : LawSt w h₀ kA tA xA d' N' P' low top fr cl :=
  ⟨S.nd, S.off, S.hk, S.k0, fun x hx => ⟨(S.hs x hx).1, (S.hs x hx).2.1, fun j v t e1 e2 => ((S.hs x hx).2.2 j v t e1 e2).more (fun _ h => h) hd⟩, S.hl, fun x hx => Nat.le_trans (S.hz x hx) hN, Nat.le_trans S.hp hP, S.hcl⟩
theorem sum_snoc (l : List Nat) (x : Nat) : (l ++ [x]).sum = l.sum + x := by simp
/-- one more thing in the top row -/
theorem LawSt.app (S : LawSt w h₀ kA tA xA d N P low top fr cl) {v : Value} {t : Str} {u : Tok} {rn tn : Nat} (h : Tells w (Frz h₀ fr) cl d v t) :
    LawSt w h₀ kA tA xA d (N + 1) (P + (t.length + 2)) low ⟨top.k, top.kt, top.row, top.vs ++ [v], rn, top.tr, top.tv ++ [.str t u], tn, top.ts ++ [t]⟩ fr cl := by
  have ea : ∀ T : Lvl, T.row = top.row → T.tr = top.tr → act kA tA xA (low ++ [T]) = act kA tA xA (low ++ [top]) := by
    intro T e1 e2
    simp only [act, objs_append, List.map_append, objs, List.flatMap_cons, List.flatMap_nil, List.append_nil, List.map_cons, List.map_nil, e1, e2]
  have e9 := ea ⟨top.k, top.kt, top.row, top.vs ++ [v], rn, top.tr, top.tv ++ [.str t u], tn, top.ts ++ [t]⟩ rfl rfl
  have hm : ∀ x ∈ low, x ∈ low ++ [top] := fun x hx => List.mem_append_left _ hx
  have ht : top ∈ low ++ [top] := List.mem_append_right _ (.head _)
  refine ⟨by rw [e9]; exact S.nd, by rw [e9]; exact S.off, fun x hx => ?_, fun x hx => ?_, fun x hx => ?_, S.hl, fun x hx => ?_, ?_, S.hcl⟩
  · rcases List.mem_append.mp hx with hx | hx
    · exact S.hk x (hm x hx)
    · rw [List.mem_singleton.mp hx]; exact S.hk top ht
  · cases low with
    | nil => cases hx; exact S.k0 top rfl
    | cons y low => exact S.k0 x hx
  · rcases List.mem_append.mp hx with hx | hx
    · exact S.hs x (hm x hx)
    · rw [List.mem_singleton.mp hx]
      obtain ⟨a1, a2, a3⟩ := S.hs top ht
      refine ⟨strs_snoc a1, by simp [a2], fun j v' t' e1 e2 => ?_⟩
      dsimp only at e1 e2
      by_cases hj : j < top.vs.length
      · rw [List.getElem?_append_left hj] at e1
        rw [List.getElem?_append_left (by omega)] at e2
        exact a3 j v' t' e1 e2
      · have h1 := (List.getElem?_eq_some_iff.mp e1).1
        rw [List.length_append] at h1
        have hj' : j = top.vs.length := by simp at h1; omega
        subst hj'
        rw [List.getElem?_append_right (Nat.le_refl _), Nat.sub_self] at e1
        rw [← a2, List.getElem?_append_right (Nat.le_refl _), Nat.sub_self] at e2
        cases e1; cases e2
        exact h
  · rcases List.mem_append.mp hx with hx | hx
    · exact Nat.le_succ_of_le (S.hz x (hm x hx))
    · rw [List.mem_singleton.mp hx]
      have := S.hz top ht
      show (top.vs ++ [v]).length ≤ N + 1
      rw [List.length_append]; show top.vs.length + 1 ≤ _; omega
  · have := S.hp
    rw [List.map_append] at this ⊢
    simp only [List.map_cons, List.map_nil, sum_snoc, piled_append, piled_cons, piled_nil] at this ⊢
    omega
/-- a new row is opened -/
theorem LawSt.push (S : LawSt w h₀ kA tA xA d N P low top fr cl) {k : Int} {kt : Tok} {row tr : Addr} (hk : k = 0 ∨ k = 1) (hl : low.length + 1 ≤ 7) (h1 : row ∉ act kA tA xA (low ++ [top])) (h2 : tr ∉ act kA tA xA (low ++ [top])) (h3 : @Ne Nat row tr) (h4 : ∀ p ∈ fr, p.1 ≠ row) (h5 : ∀ p ∈ fr, p.1 ≠ tr) :
    LawSt w h₀ kA tA xA d N P (low ++ [top]) ⟨k, kt, row, [], 0, tr, [], 0, []⟩ fr cl := by
  have ea : act kA tA xA ((low ++ [top]) ++ [⟨k, kt, row, [], 0, tr, [], 0, []⟩]) = act kA tA xA (low ++ [top]) ++ [row, tr] := by
    simp only [act, objs_append (low ++ [top]), List.map_append, objs, List.flatMap_cons, List.flatMap_nil, List.append_nil, List.map_cons, List.map_nil, List.cons_append]
  refine ⟨?_, fun p hp hm => ?_, fun x hx => ?_, fun x hx => ?_, fun x hx => ?_, by rw [List.length_append]; exact hl, fun x hx => ?_, ?_, S.hcl⟩
  · rw [ea, List.nodup_append]
    refine ⟨S.nd, ?_, fun a ha b hb => ?_⟩
    · rw [List.nodup_cons]
      exact ⟨by rw [List.mem_singleton]; exact h3, by simp⟩
    · rcases List.mem_cons.mp hb with rfl | hb
      · exact fun e => h1 (e ▸ ha)
      · rw [List.mem_singleton.mp hb]; exact fun e => h2 (e ▸ ha)
  · rw [ea] at hm
    rcases List.mem_append.mp hm with hm | hm
    · exact S.off p hp hm
    · rcases List.mem_cons.mp hm with e | hm
      · exact h4 p hp e
      · exact h5 p hp (List.mem_singleton.mp hm)
  · rcases List.mem_append.mp hx with hx | hx
    · exact S.hk x hx
    · rw [List.mem_singleton.mp hx]; exact hk
  · refine S.k0 x ?_
    rw [← hx]
    cases low <;> rfl
  · rcases List.mem_append.mp hx with hx | hx
    · exact S.hs x hx
    · rw [List.mem_singleton.mp hx]
      exact ⟨.nil, rfl, fun j v t e1 _ => by cases e1⟩
  · rcases List.mem_append.mp hx with hx | hx
    · exact S.hz x hx
    · rw [List.mem_singleton.mp hx]; exact Nat.zero_le _
  · have := S.hp
    rw [List.map_append]
    simp only [List.map_cons, List.map_nil, sum_snoc, piled_nil]
    omega
end
end
section
open PySem PySem.W PyProof.Rows PySem.Calls
set_option maxHeartbeats 4000000
section
variable {w : World} {h₀ : Heap} {kA tA xA : Addr} {d N P nk nt nx : Nat} {low : List Lvl} {top : Lvl} {fr own : List (Addr × Obj)} {cl : List Addr}
theorem LawSt.sep (S : LawSt w h₀ kA tA xA d N P low top fr cl) (ha : ∀ p ∈ own, ∀ q ∈ led kA tA xA nk nt nx low top fr, p.1 ≠ q.1) :
    (@Ne Nat kA tA ∧ @Ne Nat kA xA ∧ @Ne Nat kA top.row ∧ @Ne Nat kA top.tr ∧ @Ne Nat tA xA ∧ @Ne Nat tA top.row ∧ @Ne Nat tA top.tr ∧ @Ne Nat xA top.row ∧ @Ne Nat xA top.tr ∧ @Ne Nat top.row top.tr) ∧
      (∀ p ∈ (objs low ++ fr) ++ own, p.1 ≠ kA) ∧ (∀ p ∈ (objs low ++ fr) ++ own, p.1 ≠ tA) ∧ (∀ p ∈ (objs low ++ fr) ++ own, p.1 ≠ xA) ∧ (∀ p ∈ (objs low ++ fr) ++ own, p.1 ≠ top.row) ∧ ∀ p ∈ (objs low ++ fr) ++ own, p.1 ≠ top.tr := by
  have nd := S.nd
  have off := S.off
  have e : act kA tA xA (low ++ [top]) = kA :: tA :: xA :: ((objs low).map Prod.fst ++ [top.row, top.tr]) := by
    simp only [act, objs_append, List.map_append]
    rfl
  rw [e] at nd
  rw [e] at off
  simp only [List.nodup_cons, List.nodup_append, List.mem_cons, List.mem_append, List.not_mem_nil, or_false, not_or] at nd
  obtain ⟨⟨a1, a2, a3, a4, a5⟩, ⟨b1, b2, b3, b4⟩, ⟨c1, c2, c3⟩, _, ⟨e1, _⟩, hx⟩ := nd
  refine ⟨⟨a1, a2, a4, a5, b1, b3, b4, c2, c3, e1⟩, ?_, ?_, ?_, ?_, ?_⟩
  · intro p hp q
    rcases List.mem_append.mp hp with hp | hp
    · rcases List.mem_append.mp hp with hp | hp
      · exact a3 (q ▸ List.mem_map_of_mem hp)
      · exact off p hp (q ▸ .head _)
    · exact ha p hp _ (.head _) q
  · intro p hp q
    rcases List.mem_append.mp hp with hp | hp
    · rcases List.mem_append.mp hp with hp | hp
      · exact b2 (q ▸ List.mem_map_of_mem hp)
      · exact off p hp (q ▸ .tail _ (.head _))
    · exact ha p hp _ (.tail _ (.head _)) q
  · intro p hp q
    rcases List.mem_append.mp hp with hp | hp
    · rcases List.mem_append.mp hp with hp | hp
      · exact c1 (q ▸ List.mem_map_of_mem hp)
      · exact off p hp (q ▸ .tail _ (.tail _ (.head _)))
    · exact ha p hp _ (.tail _ (.tail _ (.head _))) q
  · intro p hp q
    rcases List.mem_append.mp hp with hp | hp
    · rcases List.mem_append.mp hp with hp | hp
      · exact hx _ (List.mem_map_of_mem hp) top.row (.inl rfl) q
      · exact off p hp (q ▸ .tail _ (.tail _ (.tail _ (List.mem_append_right _ (.head _)))))
    · exact ha p hp _ (.tail _ (.tail _ (.tail _ (.head _)))) q
  · intro p hp q
    rcases List.mem_append.mp hp with hp | hp
    · rcases List.mem_append.mp hp with hp | hp
      · exact hx _ (List.mem_map_of_mem hp) top.tr (.inr rfl) q
      · exact off p hp (q ▸ .tail _ (.tail _ (.tail _ (List.mem_append_right _ (.tail _ (.head _))))))
    · exact ha p hp _ (.tail _ (.tail _ (.tail _ (.tail _ (.head _))))) q
theorem m_lay {m : Str → Option Value} {a b c : Value} (e1 : m (Str.ofString "kinds") = some a) (e2 : m (Str.ofString "things") = some b) (e3 : m (Str.ofString "texts") = some c) :
    m = fun y => if y = Str.ofString "texts" then some c else if y = Str.ofString "things" then some b else if y = Str.ofString "kinds" then some a else m y := by
  funext y
  by_cases h1 : y = Str.ofString "texts"
  · rw [if_pos h1, h1, e3]
  · rw [if_neg h1]
    by_cases h2 : y = Str.ofString "things"
    · rw [if_pos h2, h2, e2]
    · rw [if_neg h2]
      by_cases h3 : y = Str.ofString "kinds"
      · rw [if_pos h3, h3, e1]
      · rw [if_neg h3]
end
end
section
open PySem PySem.W PyProof.Rows PySem.Calls
set_option maxHeartbeats 4000000
theorem allLt_mem {d : Nat} {l : List (Addr × Obj)} (h : AllLt d l) : ∀ p ∈ l, @LT.lt Nat _ p.1 d := by
  induction l with
  | nil => intro p hp; cases hp
  | cons q l ih =>
    intro p hp
    rcases List.mem_cons.mp hp with rfl | hp
    · exact h.1
    · exact ih h.2 p hp
def LawJ (w : World) (h₀ : Heap) (i : Nat) (m : Str → Option Value) (nw : List (Addr × Obj)) : Prop :=
  ∃ kA tA xA nk nt nx low top fr cl, nw = led kA tA xA nk nt nx low top fr ∧ m (Str.ofString "kinds") = some (.ref kA) ∧ m (Str.ofString "things") = some (.ref tA) ∧ m (Str.ofString "texts") = some (.ref xA) ∧ LawSt w h₀ kA tA xA i (40 * i) (1400 * i) low top fr cl
section
variable {w : World} {h₀ h' : Heap} {L : Addr} {m : Str → Option Value} {i d N P nk nt nx tk : Nat} {kA tA xA : Addr} {low : List Lvl} {top : Lvl} {fr own : List (Addr × Obj)} {cl : List Addr} {s₁ : Shared} {Q : Flow → Shared → Prop}
theorem turn_end (F : Fr h₀ L h' m) (N : News h₀ L h' (led kA tA xA nk nt nx low top fr ++ own)) (ha : Apart own (led kA tA xA nk nt nx low top fr))
    (e1 : m (Str.ofString "kinds") = some (.ref kA)) (e2 : m (Str.ofString "things") = some (.ref tA)) (e3 : m (Str.ofString "texts") = some (.ref xA)) (S : LawSt w h₀ kA tA xA i (40 * i) (1400 * i) low top fr cl) : LPost h₀ L (LawJ w h₀ i) own s₁ Q .next { s₁ with heap := h', toks := tk } :=
  LEnd.intro F N ha ⟨kA, tA, xA, nk, nt, nx, low, top, fr, cl, rfl, e1, e2, e3, S⟩
theorem led_addrs {p : Addr × Obj} : p ∈ led kA tA xA nk nt nx low top fr → p.1 ∈ act kA tA xA (low ++ [top]) ∨ p ∈ fr := by
  intro hp
  have e : act kA tA xA (low ++ [top]) = kA :: tA :: xA :: ((objs low).map Prod.fst ++ [top.row, top.tr]) := by
    simp only [act, objs_append, List.map_append]
    rfl
  rw [e]
  rcases List.mem_cons.mp hp with rfl | hp
  · exact .inl (.head _)
  rcases List.mem_cons.mp hp with rfl | hp
  · exact .inl (.tail _ (.head _))
  rcases List.mem_cons.mp hp with rfl | hp
  · exact .inl (.tail _ (.tail _ (.head _)))
  rcases List.mem_cons.mp hp with rfl | hp
  · exact .inl (.tail _ (.tail _ (.tail _ (List.mem_append_right _ (.head _)))))
  rcases List.mem_cons.mp hp with rfl | hp
  · exact .inl (.tail _ (.tail _ (.tail _ (List.mem_append_right _ (.tail _ (.head _))))))
  rcases List.mem_append.mp hp with hp | hp
  · exact .inl (.tail _ (.tail _ (.tail _ (List.mem_append_left _ (List.mem_map_of_mem hp)))))
  · exact .inr hp
theorem act_mem {a : Addr} (h : a ∈ act kA tA xA (low ++ [top])) : a = kA ∨ a = tA ∨ a = xA ∨ a = top.row ∨ a = top.tr ∨ ∃ p ∈ objs low, p.1 = a := by
  have e : act kA tA xA (low ++ [top]) = kA :: tA :: xA :: ((objs low).map Prod.fst ++ [top.row, top.tr]) := by
    simp only [act, objs_append, List.map_append]
    rfl
  rw [e] at h
  simp only [List.mem_cons, List.mem_append, List.not_mem_nil, or_false, List.mem_map] at h
  rcases h with h | h | h | ⟨p, hp, h⟩ | h | h
  · exact .inl h
  · exact .inr (.inl h)
  · exact .inr (.inr (.inl h))
  · exact .inr (.inr (.inr (.inr (.inr ⟨p, hp, h⟩))))
  · exact .inr (.inr (.inr (.inl h)))
  · exact .inr (.inr (.inr (.inr (.inl h))))
/-- an address above all of the ledger is new to it -/
theorem new_act {a : Addr} (o : @LT.lt Nat _ kA a ∧ @LT.lt Nat _ tA a ∧ @LT.lt Nat _ xA a ∧ @LT.lt Nat _ top.row a ∧ @LT.lt Nat _ top.tr a ∧ AllLt a ((objs low ++ fr) ++ own)) : a ∉ act kA tA xA (low ++ [top]) := by
  intro h
  obtain ⟨o1, o2, o3, o4, o5, o6⟩ := o
  rcases act_mem h with h | h | h | h | h | ⟨p, hp, h⟩
  · exact Nat.lt_irrefl _ (h ▸ o1)
  · exact Nat.lt_irrefl _ (h ▸ o2)
  · exact Nat.lt_irrefl _ (h ▸ o3)
  · exact Nat.lt_irrefl _ (h ▸ o4)
  · exact Nat.lt_irrefl _ (h ▸ o5)
  · exact Nat.lt_irrefl _ (h ▸ allLt_mem o6 p (List.mem_append_left _ (List.mem_append_left _ hp)))
theorem push_end {row tr : Addr} {k : Int} {kt : Tok} (hk : k = 0 ∨ k = 1) (S : LawSt w h₀ kA tA xA i (40 * i) (1400 * i) low top fr cl) (F : Fr h₀ L h' m)
    (N : News h₀ L h' ((tr, lObj [] 0) :: (row, lObj [] 0) :: (kA, W.listOf ((kvs low ++ [Value.int top.k top.kt]).toArray.push (.int k kt)) nk) :: (tA, W.listOf ((rvs low ++ [Value.ref top.row]).toArray.push (.ref row)) nt) :: (xA, W.listOf ((xvs low ++ [Value.ref top.tr]).toArray.push (.ref tr)) nx) :: (top.row, lObj top.vs top.rn) :: (top.tr, lObj top.tv top.tn) :: ((objs low ++ fr) ++ own)))
    {nk0 nt0 nx0 : Nat} (ha0 : Apart own (led kA tA xA nk0 nt0 nx0 low top fr)) (hl : low.length + 1 < 8)
    (o1 : @LT.lt Nat _ kA row ∧ @LT.lt Nat _ tA row ∧ @LT.lt Nat _ xA row ∧ @LT.lt Nat _ top.row row ∧ @LT.lt Nat _ top.tr row ∧ AllLt row ((objs low ++ fr) ++ own)) (o2 : @LT.lt Nat _ row tr ∧ @LT.lt Nat _ kA tr ∧ @LT.lt Nat _ tA tr ∧ @LT.lt Nat _ xA tr ∧ @LT.lt Nat _ top.row tr ∧ @LT.lt Nat _ top.tr tr ∧ AllLt tr ((objs low ++ fr) ++ own))
    (e1 : m (Str.ofString "kinds") = some (.ref kA)) (e2 : m (Str.ofString "things") = some (.ref tA)) (e3 : m (Str.ofString "texts") = some (.ref xA)) : LPost h₀ L (LawJ w h₀ (i + 1)) own s₁ Q .next { s₁ with heap := h', toks := tk } := by
  have ha : ∀ p ∈ own, p.1 ≠ kA ∧ p.1 ≠ tA ∧ p.1 ≠ xA ∧ (∀ q ∈ (top.row, lObj top.vs top.rn) :: (top.tr, lObj top.tv top.tn) :: (objs low ++ fr), p.1 ≠ q.1) := fun p hp =>
    ⟨ha0 p hp _ (.head _), ha0 p hp _ (.tail _ (.head _)), ha0 p hp _ (.tail _ (.tail _ (.head _))), fun q hq => ha0 p hp q (.tail _ (.tail _ (.tail _ hq)))⟩
  have S' := (S.push (row := row) (tr := tr) (kt := kt) hk (by omega) (new_act o1) (new_act o2.2) (Nat.ne_of_lt o2.1) (fun p hp => Nat.ne_of_lt (allLt_mem o1.2.2.2.2.2 p (List.mem_append_left _ (List.mem_append_right _ hp)))) (fun p hp => Nat.ne_of_lt (allLt_mem o2.2.2.2.2.2.2 p (List.mem_append_left _ (List.mem_append_right _ hp))))).up (Nat.le_succ i) (N' := 40 * (i + 1)) (P' := 1400 * (i + 1)) (by omega) (by omega)
  have eo : objs (low ++ [top]) = objs low ++ [(top.row, lObj top.vs top.rn), (top.tr, lObj top.tv top.tn)] := objs_append _ _
  refine turn_end (nk := nk) (nt := nt) (nx := nx) F (fun p hp => ?_) (fun p hp q hq => ?_) e1 e2 e3 S'
  · have ek : lObj (kvs (low ++ [top]) ++ [.int k kt]) nk = W.listOf ((kvs low ++ [Value.int top.k top.kt]).toArray.push (.int k kt)) nk := by
      rw [List.push_toArray]; simp only [kvs, List.map_append]; rfl
    have et : lObj (rvs (low ++ [top]) ++ [.ref row]) nt = W.listOf ((rvs low ++ [Value.ref top.row]).toArray.push (.ref row)) nt := by
      rw [List.push_toArray]; simp only [rvs, List.map_append]; rfl
    have ex : lObj (xvs (low ++ [top]) ++ [.ref tr]) nx = W.listOf ((xvs low ++ [Value.ref top.tr]).toArray.push (.ref tr)) nx := by
      rw [List.push_toArray]; simp only [xvs, List.map_append]; rfl
    refine N p ?_
    simp only [led, List.cons_append, List.mem_cons] at hp
    rw [ek, et, ex] at hp
    rcases hp with hp | hp | hp | hp | hp | hp
    · exact hp ▸ .tail _ (.tail _ (.head _))
    · exact hp ▸ .tail _ (.tail _ (.tail _ (.head _)))
    · exact hp ▸ .tail _ (.tail _ (.tail _ (.tail _ (.head _))))
    · exact hp ▸ .tail _ (.head _)
    · exact hp ▸ .head _
    · rw [eo] at hp
      simp only [List.mem_append, List.mem_cons, List.not_mem_nil, or_false] at hp ⊢
      rcases hp with ((hp | hp | hp) | hp) | hp <;> simp [hp]
  · simp only [led, List.mem_cons] at hq
    obtain ⟨h1, h2, h3, h4⟩ := ha p hp
    have f1 : p.1 ≠ row := Nat.ne_of_lt (allLt_mem o1.2.2.2.2.2 p (List.mem_append_right _ hp))
    have f2 : p.1 ≠ tr := Nat.ne_of_lt (allLt_mem o2.2.2.2.2.2.2 p (List.mem_append_right _ hp))
    rcases hq with rfl | rfl | rfl | rfl | rfl | hq
    · exact h1
    · exact h2
    · exact h3
    · exact f1
    · exact f2
    · rw [eo] at hq
      refine h4 q ?_
      simp only [List.mem_append, List.mem_cons, List.not_mem_nil, or_false] at hq ⊢
      rcases hq with (hq | hq | hq) | hq <;> simp [hq]
/-- one thing more in the top row, in a turn -/
theorem app_end {v : Value} {t : Str} {u : Tok} {rn tn N' P' : Nat} (S : LawSt w h₀ kA tA xA d N P low top fr cl) (F : Fr h₀ L h' m)
    (Nw : News h₀ L h' ((kA, lObj (kvs low ++ [.int top.k top.kt]) nk) :: (tA, lObj (rvs low ++ [.ref top.row]) nt) :: (xA, lObj (xvs low ++ [.ref top.tr]) nx) :: (top.row, W.listOf (top.vs.toArray.push v) rn) :: (top.tr, W.listOf (top.tv.toArray.push (.str t u)) tn) :: ((objs low ++ fr) ++ own)))
    (h : Tells w (Frz h₀ fr) cl d v t) (hN : N + 1 ≤ N') (hP : P + (t.length + 2) ≤ P') :
    News h₀ L h' (led kA tA xA nk nt nx low ⟨top.k, top.kt, top.row, top.vs ++ [v], rn, top.tr, top.tv ++ [.str t u], tn, top.ts ++ [t]⟩ fr ++ own) ∧ LawSt w h₀ kA tA xA d N' P' low ⟨top.k, top.kt, top.row, top.vs ++ [v], rn, top.tr, top.tv ++ [.str t u], tn, top.ts ++ [t]⟩ fr cl := by
  refine ⟨?_, (S.app h).up (Nat.le_refl _) hN hP⟩
  rw [List.push_toArray, List.push_toArray] at Nw
  exact Nw
theorem apart_same {top' : Lvl} {nk' nt' nx' : Nat} (e1 : top'.row = top.row) (e2 : top'.tr = top.tr) (ha : Apart own (led kA tA xA nk nt nx low top fr)) : Apart own (led kA tA xA nk' nt' nx' low top' fr) := by
  intro p hp q hq
  rcases List.mem_cons.mp hq with rfl | hq
  · exact ha p hp (kA, lObj (kvs low ++ [.int top.k top.kt]) nk) (.head _)
  rcases List.mem_cons.mp hq with rfl | hq
  · exact ha p hp (tA, lObj (rvs low ++ [.ref top.row]) nt) (.tail _ (.head _))
  rcases List.mem_cons.mp hq with rfl | hq
  · exact ha p hp (xA, lObj (xvs low ++ [.ref top.tr]) nx) (.tail _ (.tail _ (.head _)))
  rcases List.mem_cons.mp hq with rfl | hq
  · show p.1 ≠ top'.row
    rw [e1]; exact ha p hp (top.row, lObj top.vs top.rn) (.tail _ (.tail _ (.tail _ (.head _))))
  rcases List.mem_cons.mp hq with rfl | hq
  · show p.1 ≠ top'.tr
    rw [e2]; exact ha p hp (top.tr, lObj top.tv top.tn) (.tail _ (.tail _ (.tail _ (.tail _ (.head _)))))
  · exact ha p hp q (.tail _ (.tail _ (.tail _ (.tail _ (.tail _ hq)))))
end
end
section
open PySem PySem.W PyProof.Rows PySem.Calls
set_option maxHeartbeats 4000000
section
variable {w : World} {h₀ : Heap} {kA tA xA : Addr} {d N P nk nt nx : Nat} {low : List Lvl} {top t2 : Lvl} {fr own : List (Addr × Obj)} {cl : List Addr}
theorem act_snoc (l : List Lvl) (x : Lvl) : act kA tA xA (l ++ [x]) = act kA tA xA l ++ [x.row, x.tr] := by
  simp only [act, objs_append, List.map_append, List.cons_append]
  rfl
theorem frz_mono {fr fr' : List (Addr × Obj)} (k : ∀ p ∈ fr, p ∈ fr') : ∀ a o, Frz h₀ fr a o → Frz h₀ fr' a o := fun a o h => h.imp (k _) id
theorem LawSt.close {fr' : List (Addr × Obj)} {cl' : List Addr} (S : LawSt w h₀ kA tA xA d N P (low ++ [t2]) top fr cl) (hfr : ∀ p ∈ fr', p ∈ fr ∨ p = (top.row, lObj top.vs top.rn) ∨ p.1 ∉ act kA tA xA (low ++ [t2])) (hsub : ∀ p ∈ fr, p ∈ fr') (hcl : ∀ b ∈ cl, b ∈ cl') (hcl' : ∀ b ∈ cl', ∃ o, (b, o) ∈ fr') :
    LawSt w h₀ kA tA xA (d + 1) N (P - piled top.ts) low t2 fr' cl' ∧ piled top.ts ≤ P := by
  have nd := S.nd
  rw [act_snoc (low ++ [t2]), List.nodup_append] at nd
  have hm : ∀ x ∈ low ++ [t2], x ∈ (low ++ [t2]) ++ [top] := fun x hx => List.mem_append_left _ hx
  have hp := S.hp
  rw [List.map_append] at hp
  simp only [List.map_cons, List.map_nil, sum_snoc] at hp
  refine ⟨⟨nd.1, fun p h1 h2 => ?_, fun x hx => S.hk x (hm x hx), fun x hx => S.k0 x ?_, fun x hx => ⟨(S.hs x (hm x hx)).1, (S.hs x (hm x hx)).2.1, fun j v t e1 e2 => (((S.hs x (hm x hx)).2.2 j v t e1 e2).mono (frz_mono hsub)).more hcl (Nat.le_succ _)⟩, ?_, fun x hx => S.hz x (hm x hx), by omega, hcl'⟩, by omega⟩
  · rcases hfr p h1 with h | rfl | h
    · exact S.off p h (by rw [act_snoc (low ++ [t2])]; exact List.mem_append_left _ h2)
    · exact nd.2.2 _ h2 _ (.head _) rfl
    · exact h h2
  · rw [← hx]
    cases low <;> rfl
  · have := S.hl
    rw [List.length_append] at this
    simp at this
    omega
theorem led_top {p : Addr × Obj} (hp : p ∈ objs (low ++ [t2])) : p ∈ objs low ∨ p = (t2.row, lObj t2.vs t2.rn) ∨ p = (t2.tr, lObj t2.tv t2.tn) := by
  rw [objs_append] at hp
  rcases List.mem_append.mp hp with hp | hp
  · exact .inl hp
  · exact .inr (by simpa [objs] using hp)
theorem piled_sum (ts : List Str) : (ts.map (·.length)).sum + 2 * ts.length = piled ts := by
  induction ts with
  | nil => rfl
  | cons t ts ih => rw [piled_cons, List.map_cons, List.sum_cons, List.length_cons]; omega
theorem listText_piled (ts : List Str) : (listText ts).length ≤ piled ts + 3 := by
  have := listText_len_le ts
  have := piled_sum ts
  omega
/-- what a call of _law_close leaves -/
theorem close_N {mean : ExcName → Option Value} {mg mb : Str → Option Value} {L : Addr} {m : Str → Option Value} {s : Shared} {A : Around} {Q E : Value → Shared → Prop} (F : Fr h₀ L s.heap m) (X : (atop.heap_39 w.params).In h₀) (T : TP mean mg mb h₀) (Nw : News h₀ L s.heap (led kA tA xA nk nt nx low top fr ++ own)) (S : LawSt w h₀ kA tA xA d N P low top fr cl) (ha : Apart own (led kA tA xA nk nt nx low top fr))
    (hN : N ≤ 850) (hP : P ≤ 700000) (hd : A.depth < 900) (hh : A.handled = none)
    (h : ∀ h' tk p pn thing t u nk' nt' nx' (tl : List (Addr × Obj)), Fr h₀ L h' m → News h₀ L h' ((p, tObj [thing, .str t u] pn) :: (kA, lObj (kvs low) nk') :: (tA, lObj (rvs low) nt') :: (xA, lObj (xvs low) nx') :: (top.row, lObj top.vs top.rn) :: (tl ++ ((objs low ++ fr) ++ own))) →
      (∀ r ∈ led kA tA xA nk nt nx low top fr ++ own, r.1 ≠ p) → (∀ q ∈ tl, ∀ r ∈ led kA tA xA nk nt nx low top fr ++ own, r.1 ≠ q.1) → (∀ q ∈ tl, h'.get? q.1 = some q.2) → 
      (top.k = 1 ∧ thing = .ref top.row ∧ t = listText top.ts ∧ tl = [] ∨ top.k = 0 ∧ t = vText top.ts ∧ ∃ y, thing = .ref y ∧ VecAt (Frz h₀ tl) y top.vs) → Q (.ref p) { s with heap := h', toks := tk }) :
    wpAny (model PW w) A (call (.ref 327) [.ref kA, .ref tA, .ref xA]) Q E s := by
  obtain ⟨⟨d1, d2, d3, d4, d5, d6, d7, d8, d9, d10⟩, q1, q2, q3, q4, q5⟩ := S.sep ha
  have nk' := Nw _ (.head _)
  have nt' := Nw _ (.tail _ (.head _))
  have nx' := Nw _ (.tail _ (.tail _ (.head _)))
  have nr := Nw _ (.tail _ (.tail _ (.tail _ (.head _))))
  have nr2 := Nw _ (.tail _ (.tail _ (.tail _ (.tail _ (.head _)))))
  have htop : top ∈ low ++ [top] := List.mem_append_right _ (.head _)
  obtain ⟨s1, s2, s3⟩ := S.hs top htop
  have hz := S.hz top htop
  have hps := piled_sum top.ts
  have hp : piled top.ts ≤ P := by
    have := S.hp
    rw [List.map_append] at this
    simp only [List.map_cons, List.map_nil, sum_snoc] at this
    omega
  have hl := S.hl
  have gone : ∀ b, s.heap.get? b = none → ∀ r ∈ led kA tA xA nk nt nx low top fr ++ own, r.1 ≠ b := fun b e r hr => ne_of_none (Nw r hr).1 e
  have hL : ∀ b, s.heap.get? b = none → b ≠ L ∧ h₀.get? b = none := fun b e => ⟨fun q => (by
    obtain ⟨oL, _, _, hL, _⟩ := F.ns
    rw [q, hL] at e; cases e), none_of F.keep e⟩
  refine wpAny_call (close_spec (ts := top.ts) F.keep X T (forall3 ⟨nk'.1, nk'.2.2⟩ ⟨nt'.1, nt'.2.2⟩ ⟨nx'.1, nx'.2.2⟩) d1 d2 d5 nr.1 d3.symm d6.symm d8.symm nr2.1 d4.symm d7.symm d9.symm s1 (by omega) (by omega) (by simp only [kvs, List.length_map]; omega) (by simp only [rvs, List.length_map]; omega) (by simp only [xvs, List.length_map]; omega) (S.hk top htop) hd hh fun h' tk p pn thing u n1' n2' n3' tl kB g1 g2 g3 gp alt => ?_)
  have F' : Fr h₀ L h' m := fr_but F (fun b hb => by
    rcases List.mem_cons.mp hb with rfl | hb
    · exact ⟨nk'.2.2, fun q => nk'.2.1 q.symm⟩
    · rcases List.mem_cons.mp hb with rfl | hb
      · exact ⟨nt'.2.2, fun q => nt'.2.1 q.symm⟩
      · rw [List.mem_singleton.mp hb]; exact ⟨nx'.2.2, fun q => nx'.2.1 q.symm⟩) kB
  have kR : ∀ q ∈ (objs low ++ fr) ++ own, h'.get? q.1 = some q.2 ∧ q.1 ≠ L ∧ h₀.get? q.1 = none := by
    intro q hq
    have z := Nw q (by simp only [led, List.cons_append]; exact .tail _ (.tail _ (.tail _ (.tail _ (.tail _ hq)))))
    refine ⟨kB _ _ ?_ z.1, z.2⟩
    simp only [List.mem_cons, List.not_mem_nil, or_false, not_or]
    exact ⟨q1 q hq, q2 q hq, q3 q hq⟩
  have krow : h'.get? top.row = some (lObj top.vs top.rn) := kB _ _ (by simp only [List.mem_cons, List.not_mem_nil, or_false, not_or]; exact ⟨d3.symm, d6.symm, d8.symm⟩) nr.1
  rcases alt with ⟨a1, a2, a3, a4⟩ | ⟨a1, y, a2, a3, a4, a5⟩
  · refine h h' tk p pn thing _ u n1' n2' n3' [] F' ?_ (gone p gp) (fun q hq => by cases hq) (fun q hq => by cases hq) (.inl ⟨a1, a2, rfl, rfl⟩)
    exact news_cons a3 (hL _ gp) (news_cons g1 nk'.2 (news_cons g2 nt'.2 (news_cons g3 nx'.2 (news_cons krow nr.2 kR))))
  · refine h h' tk p pn thing _ u n1' n2' n3' tl F' ?_ (gone p gp) (fun q hq => gone _ (a4 q hq).1) (fun q hq => (a4 q hq).2) (.inr ⟨a1, rfl, y, a2, a5⟩)
    refine news_cons a3 (hL _ gp) (news_cons g1 nk'.2 (news_cons g2 nt'.2 (news_cons g3 nx'.2 (news_cons krow nr.2 fun q hq => ?_))))
    rcases List.mem_append.mp hq with hq | hq
    · exact ⟨(a4 q hq).2, hL _ (a4 q hq).1⟩
    · exact kR q hq
end
end
section
open PySem PySem.W PyProof.Rows PySem.Calls
set_option maxHeartbeats 4000000
section
variable {w : World} {h₀ h' : Heap} {L p : Addr} {kA tA xA : Addr} {d N P nk nt nx nk' nt' nx' pn : Nat} {low : List Lvl} {top t2 : Lvl} {fr own tl : List (Addr × Obj)} {cl : List Addr} {thing : Value} {t : Str} {u : Tok}
theorem top_off (S : LawSt w h₀ kA tA xA d N P low top fr cl) : top.row ∉ cl ∧ top.row ∉ act kA tA xA low := by
  have nd := S.nd
  rw [act_snoc, List.nodup_append] at nd
  refine ⟨fun q => ?_, fun q => nd.2.2 _ q _ (.head _) rfl⟩
  obtain ⟨o, ho⟩ := S.hcl _ q
  exact S.off _ ho (by rw [act_snoc]; exact List.mem_append_right _ (.head _))
/-- what was closed is shown -/
theorem close_tells (S : LawSt w h₀ kA tA xA d N P low top fr cl) (hN : N ≤ 850) (hP : P ≤ 700000)
    (alt : top.k = 1 ∧ thing = .ref top.row ∧ t = listText top.ts ∧ tl = [] ∨ top.k = 0 ∧ t = vText top.ts ∧ ∃ y, thing = .ref y ∧ VecAt (Frz h₀ tl) y top.vs) :
    ∃ fr' cl', (∀ q ∈ fr', q ∈ fr ∨ q = (top.row, lObj top.vs top.rn) ∨ q ∈ tl) ∧ (∀ q ∈ fr, q ∈ fr') ∧ (∀ b ∈ cl, b ∈ cl') ∧ (∀ b ∈ cl', ∃ o, (b, o) ∈ fr') ∧ Tells w (Frz h₀ fr') cl' (d + 1) thing t ∧ t.length + 2 ≤ piled top.ts + 14 ∧
      (top.k = 0 → ∃ y, thing = .ref y ∧ t = vText top.ts ∧ TellV w (Frz h₀ fr') cl' d y top.vs top.ts) := by
  have htop : top ∈ low ++ [top] := List.mem_append_right _ (.head _)
  obtain ⟨s1, s2, s3⟩ := S.hs top htop
  have hz := S.hz top htop
  have hlp := listText_piled top.ts
  have hp : piled top.ts ≤ P := by
    have := S.hp
    rw [List.map_append] at this
    simp only [List.map_cons, List.map_nil, sum_snoc] at this
    omega
  rcases alt with ⟨a1, a2, a3, a4⟩ | ⟨a1, a2, y, a3, a4⟩
  · subst a2 a3 a4
    refine ⟨(top.row, lObj top.vs top.rn) :: fr, top.row :: cl, fun q hq => ?_, fun q hq => .tail _ hq, fun b hb => .tail _ hb, fun b hb => ?_, ?_, by omega, fun q => ?_⟩
    · rcases List.mem_cons.mp hq with h | h
      · exact .inr (.inl h)
      · exact .inl h
    · rcases List.mem_cons.mp hb with rfl | h
      · exact ⟨_, .head _⟩
      · obtain ⟨o, ho⟩ := S.hcl b h
        exact ⟨o, .tail _ ho⟩
    · exact .list (.inl (.head _)) (top_off S).1 (fun b hb => hb) (Nat.lt_succ_self d) s2 fun j v t e1 e2 => (s3 j v t e1 e2).mono (frz_mono fun q hq => .tail _ hq)
    · rw [a1] at q; cases q
  · subst a2 a3
    have V : VecAt (Frz h₀ (tl ++ fr)) y top.vs := a4.mono (frz_mono fun q hq => List.mem_append_left _ hq)
    have hi : ∀ (j : Nat) (v : Value) (t : Str), top.vs[j]? = some v → top.ts[j]? = some t → Tells w (Frz h₀ (tl ++ fr)) cl d v t := fun j v t e1 e2 => (s3 j v t e1 e2).mono (frz_mono fun q hq => List.mem_append_right _ hq)
    have H : TellV w (Frz h₀ (tl ++ fr)) cl d y top.vs top.ts := ⟨V, by omega, by omega, s2, hi⟩
    refine ⟨tl ++ fr, cl, fun q hq => ?_, fun q hq => List.mem_append_right _ hq, fun b hb => hb, fun b hb => ?_, H.tells, by rw [vText_len]; omega, fun _ => ⟨y, rfl, rfl, H⟩⟩
    · rcases List.mem_append.mp hq with h | h
      · exact .inr (.inr h)
      · exact .inl h
    · obtain ⟨o, ho⟩ := S.hcl b hb
      exact ⟨o, List.mem_append_right _ ho⟩
theorem close_after (S : LawSt w h₀ kA tA xA d N P (low ++ [t2]) top fr cl) (hN : N ≤ 850) (hP : P ≤ 700000)
    (Nw : News h₀ L h' ((p, tObj [thing, .str t u] pn) :: (kA, lObj (kvs (low ++ [t2])) nk') :: (tA, lObj (rvs (low ++ [t2])) nt') :: (xA, lObj (xvs (low ++ [t2])) nx') :: (top.row, lObj top.vs top.rn) :: (tl ++ ((objs (low ++ [t2]) ++ fr) ++ own))))
    (gp : ∀ r ∈ led kA tA xA nk nt nx (low ++ [t2]) top fr ++ own, r.1 ≠ p) (gt : ∀ q ∈ tl, ∀ r ∈ led kA tA xA nk nt nx (low ++ [t2]) top fr ++ own, r.1 ≠ q.1) (ha : Apart own (led kA tA xA nk nt nx (low ++ [t2]) top fr))
    (alt : top.k = 1 ∧ thing = .ref top.row ∧ t = listText top.ts ∧ tl = [] ∨ top.k = 0 ∧ t = vText top.ts ∧ ∃ y, thing = .ref y ∧ VecAt (Frz h₀ tl) y top.vs) :
    ∃ fr' cl', News h₀ L h' ((p, tObj [thing, .str t u] pn) :: (led kA tA xA nk' nt' nx' low t2 fr' ++ own)) ∧ LawSt w h₀ kA tA xA (d + 1) N (P - piled top.ts) low t2 fr' cl' ∧ Tells w (Frz h₀ fr') cl' (d + 1) thing t ∧ t.length + 2 ≤ piled top.ts + 14 ∧ piled top.ts ≤ P ∧ @Ne Nat p t2.row ∧ @Ne Nat p t2.tr ∧ Apart own (led kA tA xA nk' nt' nx' low t2 fr') := by
  obtain ⟨fr', cl', f1, f2, f3, f4, H, hlen, _⟩ := close_tells S hN hP alt
  have inled : ∀ q ∈ objs (low ++ [t2]), q ∈ led kA tA xA nk nt nx (low ++ [t2]) top fr := fun q hq => .tail _ (.tail _ (.tail _ (.tail _ (.tail _ (List.mem_append_left _ hq)))))
  have i1 : (t2.row, lObj t2.vs t2.rn) ∈ objs (low ++ [t2]) := by rw [objs_append]; exact List.mem_append_right _ (.head _)
  have i2 : (t2.tr, lObj t2.tv t2.tn) ∈ objs (low ++ [t2]) := by rw [objs_append]; exact List.mem_append_right _ (.tail _ (.head _))
  have i0 : ∀ q ∈ objs low, q ∈ objs (low ++ [t2]) := fun q hq => by rw [objs_append]; exact List.mem_append_left _ hq
  have off : ∀ q ∈ tl, q.1 ∉ act kA tA xA (low ++ [t2]) := by
    intro q h hm
    rcases act_mem hm with e | e | e | e | e | ⟨r, hr, e⟩
    · exact gt _ h (kA, lObj (kvs (low ++ [t2]) ++ [.int top.k top.kt]) nk) (.head _) e.symm
    · exact gt _ h (tA, lObj (rvs (low ++ [t2]) ++ [.ref top.row]) nt) (.tail _ (.head _)) e.symm
    · exact gt _ h (xA, lObj (xvs (low ++ [t2]) ++ [.ref top.tr]) nx) (.tail _ (.tail _ (.head _))) e.symm
    · exact gt _ h _ (List.mem_append_left _ (inled _ i1)) e.symm
    · exact gt _ h _ (List.mem_append_left _ (inled _ i2)) e.symm
    · exact gt _ h _ (List.mem_append_left _ (inled _ (i0 _ hr))) e
  obtain ⟨S', hle⟩ := S.close (fr' := fr') (cl' := cl') (fun q hq => (f1 q hq).imp id (fun h => h.imp id fun h => off q h)) f2 f3 f4
  refine ⟨fr', cl', fun q hq => ?_, S', H, hlen, hle, fun e => gp _ (List.mem_append_left _ (inled _ i1)) e.symm, fun e => gp _ (List.mem_append_left _ (inled _ i2)) e.symm, fun a hA q hq => ?_⟩
  · have e1 : kvs (low ++ [t2]) = kvs low ++ [.int t2.k t2.kt] := by simp only [kvs, List.map_append]; rfl
    have e2 : rvs (low ++ [t2]) = rvs low ++ [.ref t2.row] := by simp only [rvs, List.map_append]; rfl
    have e3 : xvs (low ++ [t2]) = xvs low ++ [.ref t2.tr] := by simp only [xvs, List.map_append]; rfl
    rw [e1, e2, e3] at Nw
    have tailN : ∀ q ∈ (objs (low ++ [t2]) ++ fr) ++ own, h'.get? q.1 = some q.2 ∧ q.1 ≠ L ∧ h₀.get? q.1 = none := fun q hq => Nw q (.tail _ (.tail _ (.tail _ (.tail _ (.tail _ (List.mem_append_right _ hq))))))
    rcases List.mem_cons.mp hq with rfl | hq
    · exact Nw _ (.head _)
    rcases List.mem_append.mp hq with hq | hq
    · rcases List.mem_cons.mp hq with rfl | hq
      · exact Nw _ (.tail _ (.head _))
      rcases List.mem_cons.mp hq with rfl | hq
      · exact Nw _ (.tail _ (.tail _ (.head _)))
      rcases List.mem_cons.mp hq with rfl | hq
      · exact Nw _ (.tail _ (.tail _ (.tail _ (.head _))))
      rcases List.mem_cons.mp hq with rfl | hq
      · exact tailN _ (List.mem_append_left _ (List.mem_append_left _ i1))
      rcases List.mem_cons.mp hq with rfl | hq
      · exact tailN _ (List.mem_append_left _ (List.mem_append_left _ i2))
      rcases List.mem_append.mp hq with hq | hq
      · exact tailN _ (List.mem_append_left _ (List.mem_append_left _ (i0 _ hq)))
      · rcases f1 q hq with h | rfl | h
        · exact tailN _ (List.mem_append_left _ (List.mem_append_right _ h))
        · exact Nw _ (.tail _ (.tail _ (.tail _ (.tail _ (.head _)))))
        · exact Nw _ (.tail _ (.tail _ (.tail _ (.tail _ (.tail _ (List.mem_append_left _ h))))))
    · exact tailN _ (List.mem_append_right _ hq)
  · have h5 : ∀ r ∈ led kA tA xA nk nt nx (low ++ [t2]) top fr, a.1 ≠ r.1 := ha a hA
    rcases List.mem_cons.mp hq with rfl | hq
    · exact h5 (kA, lObj (kvs (low ++ [t2]) ++ [.int top.k top.kt]) nk) (.head _)
    rcases List.mem_cons.mp hq with rfl | hq
    · exact h5 (tA, lObj (rvs (low ++ [t2]) ++ [.ref top.row]) nt) (.tail _ (.head _))
    rcases List.mem_cons.mp hq with rfl | hq
    · exact h5 (xA, lObj (xvs (low ++ [t2]) ++ [.ref top.tr]) nx) (.tail _ (.tail _ (.head _)))
    rcases List.mem_cons.mp hq with rfl | hq
    · exact h5 _ (inled _ i1)
    rcases List.mem_cons.mp hq with rfl | hq
    · exact h5 _ (inled _ i2)
    rcases List.mem_append.mp hq with hq | hq
    · exact h5 _ (inled _ (i0 _ hq))
    · rcases f1 q hq with h | rfl | h
      · exact h5 _ (.tail _ (.tail _ (.tail _ (.tail _ (.tail _ (List.mem_append_right _ h))))))
      · exact h5 _ (.tail _ (.tail _ (.tail _ (.head _))))
      · exact gt q h a (List.mem_append_right _ hA)
end
end
section
open PySem PySem.W PyProof.Rows PySem.Calls
set_option maxHeartbeats 4000000
theorem range_N {prog : Program} {w : World} {A : Around} {E : Value → Shared → Prop} {s : Shared} {h₀ : Heap} {L : Addr} {m : Str → Option Value} {news : List (Addr × Obj)} {b : Int} {t : Tok} {Q : Value → Shared → Prop} (F : Fr h₀ L s.heap m) (N : News h₀ L s.heap news)
    (h : ∀ r t1 t2 h' tk, Fr h₀ L h' m → News h₀ L h' news → IsRange h' r 0 b 1 t1 t t2 → Q (.ref r) { s with heap := h', toks := tk }) : wpAny (model prog w) A (call (.type "range") [.int b t]) Q E s :=
  call_range_1 (h _ _ _ _ _ (F.push _) (fun p hp => ⟨Heap.get?_push_of_some _ (N p hp).1, (N p hp).2⟩) (Heap.get?_push_size _ rfl))
section
variable {w : World} {h₀ : Heap}
/-- the invariant of the inner loop: rows grow -/
def InJ (w : World) (h₀ : Heap) (kA tA xA : Addr) (d N P : Nat) (low : List Lvl) (row tr : Addr) (fr : List (Addr × Obj)) (cl : List Addr) (own : List (Addr × Obj)) (x : Str) (m₀ : Str → Option Value) (j : Nat) (m : Str → Option Value) (nw : List (Addr × Obj)) : Prop :=
  ∃ u nk nt nx top, m = (fun y => if y = x then u else m₀ y) ∧ nw = led kA tA xA nk nt nx low top fr ++ own ∧ top.row = row ∧ top.tr = tr ∧ Apart own (led kA tA xA nk nt nx low top fr) ∧ LawSt w h₀ kA tA xA d (N + j) (P + 36 * j) low top fr cl
theorem inner {prog : Program} {A : Around} {s : Shared} {env : Env} {E : Value → Shared → Prop} {Q : Flow → Shared → Prop} {x : Str} {body : List Stmt} {r : Addr} {b : Int} {t1 t2 t3 : Tok} {m₀ : Str → Option Value} {kA tA xA : Addr} {d N P nk nt nx : Nat} {low : List Lvl} {top : Lvl} {fr own : List (Addr × Obj)} {cl : List Addr}
    (IR : IsRange s.heap r 0 b 1 t1 t2 t3) (hb : 0 < b ∧ b ≤ 36) (hh : A.handled = none) (F : Fr h₀ env.locals s.heap m₀) (Nw : News h₀ env.locals s.heap (led kA tA xA nk nt nx low top fr ++ own)) (S : LawSt w h₀ kA tA xA d N P low top fr cl) (ha : Apart own (led kA tA xA nk nt nx low top fr))
    (turn : ∀ (j : Nat) (t : Tok) nk nt nx top' h tk own', j < 36 → top'.row = top.row → top'.tr = top.tr → LawSt w h₀ kA tA xA d (N + j) (P + 36 * j) low top' fr cl → Apart (own ++ own') (led kA tA xA nk nt nx low top' fr) → Apart own' (led kA tA xA nk nt nx low top' fr ++ own) → Apart own (led kA tA xA nk nt nx low top' fr) →
      Fr h₀ env.locals h (fun y => if y = x then some (.int (j : Int) t) else m₀ y) → News h₀ env.locals h (led kA tA xA nk nt nx low top' fr ++ (own ++ own')) →
      wpAny (model prog w) A (execs body env) (LPost h₀ env.locals (InJ w h₀ kA tA xA d N P low top.row top.tr fr cl own x m₀ (j + 1)) own' { s with heap := h, toks := tk } Q) E { s with heap := h, toks := tk })
    (done : ∀ u nk nt nx top' h tk, top'.row = top.row → top'.tr = top.tr → LawSt w h₀ kA tA xA d (N + 36) (P + 1296) low top' fr cl → Apart own (led kA tA xA nk nt nx low top' fr) → Fr h₀ env.locals h (fun y => if y = x then u else m₀ y) → News h₀ env.locals h (led kA tA xA nk nt nx low top' fr ++ own) → Q .next { s with heap := h, toks := tk }) :
    wpAny (model prog w) A (pyIter (.ref r)) (fun it s₂ => LoopAtV prog w A h₀ env x body Q E it s₂) E s := by
  refine loop_range (n := b.toNat) (InJ w h₀ kA tA xA d N P low top.row top.tr fr cl own x m₀) hh IR ?_ ?_ F Nw ⟨_, nk, nt, nx, top, m_in _ _, rfl, rfl, rfl, ha, S⟩ ?_ ?_
  · unfold Builtin.Range.small
    have e : Builtin.Range.rangeSize 0 b 1 = b := by
      unfold Builtin.Range.rangeSize
      rw [if_pos (by decide), if_pos hb.1, Int.ediv_one]
      omega
    rw [e]
    simp [Builtin.Range.rangeFitsLong]
    omega
  · unfold Builtin.Range.rangeSize
    rw [if_pos (by decide), if_pos hb.1, Int.ediv_one]
    omega
  · rintro j t m₁ _ h tk own' hj ⟨u, nk, nt, nx, top', rfl, rfl, r1, r2, ha1, S1⟩ ha2 F1 N1
    rw [m_again, Int.zero_add] at F1
    refine turn j t nk nt nx top' h tk own' (by omega) r1 r2 S1 (fun p hp q hq => ?_) ha2 ha1 F1 (by rw [← List.append_assoc]; exact N1)
    rcases List.mem_append.mp hp with hp | hp
    · exact ha1 p hp q hq
    · exact ha2 p hp q (List.mem_append_left _ hq)
  · rintro m₁ _ h tk ⟨u, nk, nt, nx, top', rfl, rfl, r1, r2, ha1, S1⟩ F1 N1
    exact done u nk nt nx top' h tk r1 r2 (S1.up (Nat.le_refl _) (by omega) (by omega)) ha1 F1 N1
end
theorem int_len {a : Int} (h1 : -(10 ^ 30) < a) (h2 : a < 10 ^ 31) : (Str.ofString (toString a)).length ≤ 32 := by
  by_cases h : 0 ≤ a
  · have := toString_length_le h (k := 31) (by decide) h2
    omega
  · obtain ⟨n, rfl⟩ : ∃ n : Nat, a = Int.negSucc n := ⟨(-a - 1).toNat, by omega⟩
    have e : (toString (Int.negSucc n) : String) = "-" ++ toString (((n + 1 : Nat) : Int)) := rfl
    rw [e]
    have h3 := toString_length_le (v := ((n + 1 : Nat) : Int)) (by omega) (k := 31) (by decide) (by omega)
    rw [PySem.ofString_length] at h3 ⊢
    rw [String.length_append]
    have h5 : "-".length = 1 := by decide +kernel
    omega
theorem int_dig {a : Int} (h1 : -(10 ^ 30) < a) (h2 : a < 10 ^ 31) : a.natAbs.log2 < 1920 := by
  by_cases h : a.natAbs = 0
  · rw [h]; decide
  · exact (Nat.log2_lt h).mpr (by have : (10 : Nat) ^ 31 < 2 ^ 1920 := by decide +kernel
                                  omega)
theorem in_end {w : World} {h₀ h' : Heap} {L : Addr} {kA tA xA row tr : Addr} {d N P nk nt nx j tk : Nat} {low : List Lvl} {T' : Lvl} {fr own own' : List (Addr × Obj)} {cl : List Addr} {x : Str} {u : Option Value} {m₀ : Str → Option Value} {s₁ : Shared} {Q : Flow → Shared → Prop} (F : Fr h₀ L h' (fun y => if y = x then u else m₀ y))
    (Nw : News h₀ L h' (led kA tA xA nk nt nx low T' fr ++ (own ++ own'))) (r1 : T'.row = row) (r2 : T'.tr = tr) (ha1 : Apart own (led kA tA xA nk nt nx low T' fr)) (haB : Apart own' (led kA tA xA nk nt nx low T' fr)) (haC : Apart own' own) (S : LawSt w h₀ kA tA xA d (N + j) (P + 36 * j) low T' fr cl) :
    LPost h₀ L (InJ w h₀ kA tA xA d N P low row tr fr cl own x m₀ j) own' s₁ Q .next { s₁ with heap := h', toks := tk } :=
  LEnd.intro F (nx := led kA tA xA nk nt nx low T' fr ++ own) (by rw [List.append_assoc]; exact Nw) (fun p hp q hq => (List.mem_append.mp hq).elim (haB p hp q) (haC p hp q)) ⟨u, nk, nt, nx, T', rfl, rfl, r1, r2, ha1, S⟩
end
section
open PySem PySem.W PyProof.Rows PySem.Calls PySem.Builtin.Str
set_option maxHeartbeats 4000000
abbrev vFront (ts : List Str) : Str := Str.ofString "pvector([" ++ Str.join (Str.ofString ", ") ts
theorem vText_front (ts : List Str) : vText ts = vFront ts ++ Str.ofString "])" := by
  have e1 : Str.ofString "pvector([" = Str.ofString "pvector(" ++ Str.ofString "[" := by decide +kernel
  have e2 : Str.ofString "])" = Str.ofString "]" ++ Str.ofString ")" := by decide +kernel
  show (Str.ofString "pvector(" ++ listText ts) ++ Str.ofString ")" = _
  rw [listText_eq_join, vFront, e1, e2]
  show (Str.ofString "pvector(" ++ (Str.ofString "[" ++ Str.join (Str.ofString ", ") ts ++ Str.ofString "]")) ++ Str.ofString ")" = _
  simp only [Str.append_assoc]
theorem slice_neg {x : Str} (h : 2 ≤ x.length) : Txt.slice x none (some (-2)) = Txt.slice x none (some ((x.length : Int) - 2)) := by
  have e : strSliceIndices none (some (-2)) 1 x.length = strSliceIndices none (some ((x.length : Int) - 2)) 1 x.length := by
    have h2 : (1 : Int) > 0 := by decide
    have h3 : (-2 : Int) < 0 := by decide
    have h4 : ¬ ((x.length : Int) - 2 < 0) := by omega
    simp only [strSliceIndices, h2, h3, h4, if_true, if_false]
    have e5 : -2 + (x.length : Int) = (x.length : Int) - 2 := by omega
    rw [e5]
  unfold Txt.slice
  rw [e]
theorem slice_two (a b : Str) (hb : b.length = 2) : Txt.slice (a ++ b) none (some (-2)) = a := by
  have hl : (a ++ b).length = a.length + 2 := by rw [strLen_append, hb]
  have hla : a.cps.toList.length = a.length := by simp [Str.length]
  rw [slice_neg (by omega), hl]
  have e1 : ((a.length + 2 : Nat) : Int) - 2 = (a.length : Int) := by omega
  rw [e1, beq_iff_eq.mp (slice_closes_toL (x := a ++ b) (j := (a.length : Int)) (by omega) (by omega))]
  have e2 : (a ++ b).cps.toList = a.cps.toList ++ b.cps.toList := by
    show (a.cps ++ b.cps).toList = _
    exact Array.toList_append
  have e3 : ((0 : Int)).toNat = 0 := rfl
  have e4 : ((a.length : Int) - 0).toNat = a.cps.toList.length := by rw [hla]; omega
  rw [e3, List.drop_zero, e2, e4, List.take_left]
theorem slice_front (ts : List Str) : Txt.slice (vText ts) none (some (-2)) = vFront ts := by
  rw [vText_front]
  exact slice_two _ _ (by decide +kernel)
theorem front_snoc {ts : List Str} (h : ts ≠ []) (t : Str) : vFront (ts ++ [t]) = vFront ts ++ (Str.ofString ", " ++ t) := by
  rw [vFront, FinIter.join_snoc, if_neg h]
  simp only [Str.append_assoc]
theorem front_one (t : Str) : vFront [t] = vFront [] ++ t := by
  have e : Str.join (Str.ofString ", ") [t] = t := rfl
  have e2 : Str.join (Str.ofString ", ") [] = Str.empty := rfl
  rw [vFront, vFront, e, e2, Str.append_empty]
theorem list_three (t : Str) : listText [t, Str.ofString "3"] = (Str.ofString "[" ++ t) ++ Str.ofString ", 3]" := by
  rw [listText_eq_join]
  have e1 : Str.ofString ", 3]" = Str.ofString ", " ++ (Str.ofString "3" ++ Str.ofString "]") := by decide +kernel
  rw [e1]
  show Str.ofString "[" ++ (t ++ Str.ofString ", " ++ Str.ofString "3") ++ Str.ofString "]" = _
  simp only [Str.append_assoc]
theorem vText_nil : vText [] = Str.ofString "pvector([])" := by decide +kernel
section
variable {prog : Program} {w : World} {A : Around} {E : Value → Shared → Prop} {s : Shared} {Q : Value → Shared → Prop} {a b : Str} {t u : Tok}
theorem ne_same (e : a = b) (h : Q (.bool false) s) : wpAny (model prog w) A (compareOp .NotEq (.str a t) (.str b u)) Q E s := by
  refine ne_str ?_
  subst e
  simpa using h
theorem eq_same (e : a = b) (h : Q (.bool true) s) : wpAny (model prog w) A (compareOp .Eq (.str a t) (.str b u)) Q E s := by
  refine eq_str ?_
  subst e
  simpa using h
end
end
section
open PySem PySem.W PyProof.Rows PySem.Calls
set_option maxHeartbeats 4000000
/-- the invariant of the loop that closes what is open -/
def LawW (w : World) (h₀ : Heap) (k : Nat) (m : Str → Option Value) (nw : List (Addr × Obj)) : Prop :=
  ∃ kA tA xA nk nt nx low top fr cl, nw = led kA tA xA nk nt nx low top fr ∧ m (Str.ofString "kinds") = some (.ref kA) ∧ m (Str.ofString "things") = some (.ref tA) ∧ m (Str.ofString "texts") = some (.ref xA) ∧ LawSt w h₀ kA tA xA (30 - k) (650 - k) (23000 - 14 * k) low top fr cl ∧ low.length = k
section
variable {w : World} {h₀ h' : Heap} {L p : Addr} {kA tA xA : Addr} {d N P nk nt nx nk' nt' nx' pn : Nat} {low : List Lvl} {top t2 : Lvl} {fr own tl : List (Addr × Obj)} {cl : List Addr} {thing : Value} {t : Str} {u : Tok} {m : Str → Option Value} {s : Shared} {A : Around}
theorem LawSt.toW {i : Nat} (hi : i ≤ 16) (S : LawSt w h₀ kA tA xA i (40 * i) (1400 * i) low top fr cl) : LawSt w h₀ kA tA xA (30 - low.length) (650 - low.length) (23000 - 14 * low.length) low top fr cl :=
  S.up (by have := S.hl; omega) (by have := S.hl; omega) (by have := S.hl; omega)
theorem last_close (e : low = []) (S : LawSt w h₀ kA tA xA d N P low top fr cl) (hN : N ≤ 850) (hP : P ≤ 700000)
    (Nw : News h₀ L h' ((p, tObj [thing, .str t u] pn) :: (kA, lObj (kvs low) nk') :: (tA, lObj (rvs low) nt') :: (xA, lObj (xvs low) nx') :: (top.row, lObj top.vs top.rn) :: (tl ++ ((objs low ++ fr) ++ own))))
    (alt : top.k = 1 ∧ thing = .ref top.row ∧ t = listText top.ts ∧ tl = [] ∨ top.k = 0 ∧ t = vText top.ts ∧ ∃ y, thing = .ref y ∧ VecAt (Frz h₀ tl) y top.vs) :
    ∃ fr' cl' y vs ts, thing = .ref y ∧ t = vText ts ∧ News h₀ L h' ((p, tObj [.ref y, .str (vText ts) u] pn) :: fr') ∧ TellV w (Frz h₀ fr') cl' d y vs ts ∧ (∀ b ∈ cl', ∃ o, (b, o) ∈ fr') ∧ vs.length ≤ N ∧ piled ts ≤ P := by
  subst e
  have hk : top.k = 0 := S.k0 top rfl
  obtain ⟨fr', cl', f1, f2, f3, f4, H, hlen, hV⟩ := close_tells S hN hP alt
  obtain ⟨y, rfl, rfl, V⟩ := hV hk
  have htop : top ∈ [] ++ [top] := List.mem_append_right _ (.head _)
  have hp : piled top.ts ≤ P := by
    have := S.hp
    rw [List.map_append] at this
    simp only [List.map_cons, List.map_nil, sum_snoc] at this
    omega
  refine ⟨fr', cl', y, top.vs, top.ts, rfl, rfl, fun q hq => ?_, V, f4, S.hz top htop, hp⟩
  rcases List.mem_cons.mp hq with rfl | hq
  · exact Nw _ (.head _)
  · rcases f1 q hq with h | rfl | h
    · exact Nw _ (.tail _ (.tail _ (.tail _ (.tail _ (.tail _ (List.mem_append_right _ (List.mem_append_left _ (List.mem_append_right _ h))))))))
    · exact Nw _ (.tail _ (.tail _ (.tail _ (.tail _ (.head _)))))
    · exact Nw _ (.tail _ (.tail _ (.tail _ (.tail _ (.tail _ (List.mem_append_left _ h))))))
theorem frz_get {news nw : List (Addr × Obj)} (F : Fr h₀ L h' m) (Nw : News h₀ L h' news) (sub : ∀ q ∈ nw, q ∈ news) : ∀ a o, Frz h₀ nw a o → h'.get? a = some o := by
  rintro a o (h | h)
  · exact (Nw _ (sub _ h)).1
  · exact F.keep _ _ h
theorem inst_G {news nw : List (Addr × Obj)} {x dx : Addr} {c r sh t o : Value} {dn : Nat} (F : Fr h₀ L h' m) (Nw : News h₀ L h' news) (hx : Frz h₀ nw x (vObj dx c r sh t o)) (hdx : Frz h₀ nw dx (dictOf [] dn)) (sub : ∀ q ∈ nw, q ∈ news) : InstAt h' x (vObj dx c r sh t o) 296 (some (dictOf [] dn)) :=
  inst_of (frz_get F Nw sub _ _ hx) (frz_get F Nw sub _ _ hdx)
theorem dom_get {news nw : List (Addr × Obj)} (Nw : News h₀ L h' news) (sub : ∀ q ∈ nw, q ∈ news) (h : ∀ b ∈ cl, ∃ o, (b, o) ∈ nw) : ∀ b ∈ cl, ∃ o, h'.get? b = some o := by
  intro b hb
  obtain ⟨o, ho⟩ := h b hb
  exact ⟨o, (Nw _ (sub _ ho)).1⟩
/-- a call of append -/
theorem append_N {mean : ExcName → Option Value} {mg mb : Str → Option Value} {nw : List (Addr × Obj)} {x : Addr} {v : Value} {items : List Value} {Q E : Value → Shared → Prop} (F : Fr h₀ L s.heap m) (X : (atop.heap_39 w.params).In h₀) (T : TP mean mg mb h₀) (Nw : News h₀ L s.heap (nw ++ own)) (ha : Apart own nw) (V : VecAt (Frz h₀ nw) x items) (hz : items.length ≤ 900) (hd : A.depth < 950) (hh : A.handled = none)
    (h : ∀ y tl h' tk, Fr h₀ L h' m → News h₀ L h' ((tl ++ nw) ++ own) → Apart own (tl ++ nw) → VecAt (Frz h₀ (tl ++ nw)) y (items ++ [v]) → Q (.ref y) { s with heap := h', toks := tk }) : wpAny (model PW w) A (call (.ref 221) [.ref x, v]) Q E s := by
  refine wpAny_call (append_spec F.keep X T (frz_get F Nw fun q hq => List.mem_append_left _ hq) V hz (by omega) hh fun y tl h' tk k a V' => ?_)
  have hL : ∀ b, s.heap.get? b = none → b ≠ L ∧ h₀.get? b = none := fun b e => ⟨fun q => (by
    obtain ⟨oL, _, _, hL, _⟩ := F.ns
    rw [q, hL] at e; cases e), none_of F.keep e⟩
  refine h y tl h' tk (fr_ext F k) (fun q hq => ?_) (fun p hp q hq => ?_) (V'.mono fun a o => ?_)
  · rw [List.append_assoc] at hq
    rcases List.mem_append.mp hq with hq | hq
    · exact ⟨(a q hq).2, hL _ (a q hq).1⟩
    · exact news_ext Nw k q hq
  · rcases List.mem_append.mp hq with hq | hq
    · exact ne_of_none (Nw p (List.mem_append_right _ hp)).1 (a q hq).1
    · exact ha p hp q hq
  · rintro (h | h | h)
    · exact .inl (List.mem_append_left _ h)
    · exact .inl (List.mem_append_right _ h)
    · exact .inr h
theorem TellV.up {G G' : Addr → Obj → Prop} {as : List Addr} {d' : Nat} {x : Addr} {items : List Value} {ts : List Str} (H : TellV w G as d x items ts) (k : ∀ a o, G a o → G' a o) (hd : d ≤ d') : TellV w G' as d' x items ts :=
  ⟨H.V.mono k, H.hz, H.hsz, H.hlen, fun i v t e1 e2 => ((H.hi i v t e1 e2).mono k).more (fun _ h => h) hd⟩
theorem TellV.snoc {G G' : Addr → Obj → Prop} {as : List Addr} {x y : Addr} {v : Value} {t : Str} {items : List Value} {ts : List Str} (H : TellV w G as d x items ts) (k : ∀ a o, G a o → G' a o) (V : VecAt G' y (items ++ [v])) (hv : Tells w G' as d v t) (hz : items.length ≤ 1499) (hs : piled ts + t.length ≤ 899990) : TellV w G' as d y (items ++ [v]) (ts ++ [t]) := by
  refine ⟨V, by rw [List.length_append]; exact Nat.succ_le_succ hz, ?_, ?_, fun j v' t' e1 e2 => ?_⟩
  · have := listText_piled (ts ++ [t])
    rw [piled_append, piled_cons, piled_nil] at this
    omega
  · rw [List.length_append, List.length_append, H.hlen]; rfl
  · have a2 := H.hlen
    by_cases hj : j < items.length
    · rw [List.getElem?_append_left hj] at e1
      rw [List.getElem?_append_left (by omega)] at e2
      exact (H.hi j v' t' e1 e2).mono k
    · have h1 := (List.getElem?_eq_some_iff.mp e1).1
      rw [List.length_append] at h1
      have hj' : j = items.length := by simp at h1; omega
      subst hj'
      rw [List.getElem?_append_right (Nat.le_refl _), Nat.sub_self] at e1
      rw [← a2, List.getElem?_append_right (Nat.le_refl _), Nat.sub_self] at e2
      cases e1; cases e2
      exact hv
end
/-- the invariant of the last loop -/
def GJ (w : World) (h₀ : Heap) (cl : List Addr) (d : Nat) (y0 : Addr) (vs0 : List Value) (ts0 : List Str) (j : Nat) (m : Str → Option Value) (nw : List (Addr × Obj)) : Prop :=
  ∃ g vs ts u u', m (Str.ofString "vector") = some (.ref y0) ∧ m (Str.ofString "due") = some (.str (vText ts0) u') ∧ m (Str.ofString "grown") = some (.ref g) ∧ m (Str.ofString "front") = some (.str (vFront ts) u) ∧
    TellV w (Frz h₀ nw) cl d y0 vs0 ts0 ∧ TellV w (Frz h₀ nw) cl d g vs ts ∧ ts ≠ [] ∧ vs.length ≤ 660 + j ∧ piled ts ≤ 100000 + 4 * j ∧ ∀ b ∈ cl, ∃ o, (b, o) ∈ nw
theorem m_lay4 {m : Str → Option Value} {a b c e : Value} (e1 : m (Str.ofString "vector") = some a) (e2 : m (Str.ofString "due") = some b) (e3 : m (Str.ofString "grown") = some c) (e4 : m (Str.ofString "front") = some e) :
    m = fun y => if y = Str.ofString "front" then some e else if y = Str.ofString "grown" then some c else if y = Str.ofString "due" then some b else if y = Str.ofString "vector" then some a else m y := by
  funext y
  by_cases h1 : y = Str.ofString "front"
  · rw [if_pos h1, h1, e4]
  · rw [if_neg h1]
    by_cases h2 : y = Str.ofString "grown"
    · rw [if_pos h2, h2, e3]
    · rw [if_neg h2]
      by_cases h3 : y = Str.ofString "due"
      · rw [if_pos h3, h3, e2]
      · rw [if_neg h3]
        by_cases h4 : y = Str.ofString "vector"
        · rw [if_pos h4, h4, e1]
        · rw [if_neg h4]
end
section
open PySem PySem.W PyProof.Rows PySem.Calls
set_option maxHeartbeats 4000000
theorem fresh_LenV : True := by w_top off; trivial
theorem isfn78 {w : World} : isFn (atop.heap_39 w.params) (.ref 78) = true := by k_is
theorem find78 {w : World} : findIn (atop.heap_39 w.params) (.ref 296) "__len__" = some (some (.ref 78)) := by k_is
theorem len_spec {w : World} {mean : ExcName → Option Value} {mg mb : Str → Option Value} {h₀ : Heap} {s : Shared} {A : Around} {x : Addr} {items : List Value} {R : Result → Shared → Prop}
    (st : h₀.StaysIn s.heap) (X : (atop.heap_39 w.params).In h₀) (T : TP mean mg mb h₀) (V : VecAt (Hp s.heap) x items) (hz : items.length ≤ 1500) (hd : A.depth < 960) (hh : A.handled = none)
    (hR : ∀ h' u tk, Ext s.heap h' → R (.ok (.ret (.int (items.length : Nat) u))) { s with heap := h', toks := tk }) :
    codeAny (model PW w) A (.call (.ref 78) ⟨[.ref x], []⟩) R s := by
  have O : Owns s.heap h₀ [] := .nil
  obtain ⟨dx, r, t, tS, tn, tO, rn, un, dn, chunks, tail, hx, hdx, hr, hc, ht, h32, he⟩ := V
  ktr_enter
  intro g L' h' ge hg0 gN F N X' T' l1
  replace F : Fr g L' h' (fun y => List.lookup y [(Str.ofString "self", .ref x)]) := F
  have ge' : Ext s.heap g := fun b o e => ge b o e (by simp)
  have I' := inst_of (ge' _ _ hx) (ge' _ _ hdx)
  (try dsimp only)
  (try k_fold)
  k_steps
  have F5 := ‹Fr g L' _ _›
  exact hR _ _ _ (fun b o e => F5.keep _ _ (ge' _ _ e))
theorem lenV_N {w : World} {mean : ExcName → Option Value} {mg mb : Str → Option Value} {h₀ : Heap} {L : Addr} {m : Str → Option Value} {news : List (Addr × Obj)} {s : Shared} {A : Around} {x : Addr} {items : List Value} {G : Addr → Obj → Prop} {Q E : Value → Shared → Prop}
    (F : Fr h₀ L s.heap m) (X : (atop.heap_39 w.params).In h₀) (T : TP mean mg mb h₀) (N : News h₀ L s.heap news) (V : VecAt G x items) (hG : ∀ a o, G a o → s.heap.get? a = some o) (hz : items.length ≤ 1500) (hd : A.depth < 950) (hh : A.handled = none)
    (h : ∀ h' u tk, Fr h₀ L h' m → News h₀ L h' news → Q (.int (items.length : Nat) u) { s with heap := h', toks := tk }) : wpAny (model PW w) A (call (.builtin "len") [.ref x]) Q E s := by
  have V := V.mono hG
  obtain ⟨ox, dx, dn, I, _⟩ := V.inst
  refine len_K F X I find78 isfn78 (wpAny_call (len_spec F.keep X T V hz (by simp only [depth_in1]; omega) hh fun h' u tk k => ?_))
  exact ⟨⟨by omega, by omega⟩, h h' _ _ (fr_ext F k) (news_ext N k)⟩
theorem emp_vec {w : World} {h₀ : Heap} {nw : List (Addr × Obj)} (X : (atop.heap_39 w.params).In h₀) : VecAt (Frz h₀ nw) 311 [] :=
  VecAt.of (n := 0) (off := 0) (rn := 0) (un := 0) (dn := 0) (dx := 310) (r := 306) (t := 307) [] [] (.inr (X 311 _ (by k_is))) (.inr (X 310 _ (by k_is))) (.inr (X 306 _ (by k_is))) (.inr (X 307 _ (by k_is))) rfl rfl (fun c m => by cases m) (by decide) rfl
theorem emp_tell {w : World} {h₀ : Heap} {nw : List (Addr × Obj)} {cl : List Addr} (X : (atop.heap_39 w.params).In h₀) : TellV w (Frz h₀ nw) cl 1 311 [] [] :=
  ⟨emp_vec X, by decide, by decide +kernel, rfl, fun i v t e1 e2 => by cases e1⟩
theorem VecAt.parts {G : Addr → Obj → Prop} {x : Addr} {items : List Value} (V : VecAt G x items) : ∃ c r sh t o dx dn, G x (vObj dx c r sh t o) ∧ G dx (dictOf [] dn) := by
  obtain ⟨dx, r, t, tS, tn, tO, rn, un, dn, chunks, tail, hx, hdx, hr, hc, ht, h32, he⟩ := V
  exact ⟨_, _, _, _, _, dx, dn, hx, hdx⟩
end
section
open PySem PySem.W PyProof.Rows PySem.Calls
set_option maxHeartbeats 4000000
section
variable {w : World} {h₀ h' : Heap} {L : Addr} {d tk : Nat} {nw own tl : List (Addr × Obj)} {cl : List Addr} {t : Str} {m : Str → Option Value} {s : Shared} {A : Around} {y0 g y1 : Addr} {vs vs0 : List Value} {ts ts0 : List Str} {v : Value}
theorem Frz.more (a : Addr) (o : Obj) (h : Frz h₀ nw a o) : Frz h₀ (tl ++ nw) a o := h.imp (fun q => List.mem_append_right _ q) id
theorem dom_more (h : ∀ b ∈ cl, ∃ o, (b, o) ∈ nw) : ∀ b ∈ cl, ∃ o, (b, o) ∈ tl ++ nw := fun b hb => (h b hb).imp fun _ ho => List.mem_append_right _ ho
theorem grow1 (V : TellV w (Frz h₀ nw) cl d y0 vs ts) (V7 : VecAt (Frz h₀ (tl ++ nw)) y1 (vs ++ [.ref y0])) (hz : vs.length ≤ 660) (hp : piled ts ≤ 23000) :
    TellV w (Frz h₀ (tl ++ nw)) cl (d + 1) y0 vs ts ∧ TellV w (Frz h₀ (tl ++ nw)) cl (d + 1) y1 (vs ++ [.ref y0]) (ts ++ [vText ts]) ∧ piled (ts ++ [vText ts]) ≤ 100000 ∧ ts ++ [vText ts] ≠ [] := by
  have h1 := vText_len ts
  have h2 := listText_piled ts
  refine ⟨V.up Frz.more (Nat.le_succ d), (V.up (fun _ _ h => h) (Nat.le_succ d)).snoc Frz.more V7 (V.up Frz.more (Nat.le_refl d)).tells (by omega) (by omega), ?_, by simp⟩
  rw [piled_append, piled_cons, piled_nil]
  omega
theorem grow2 {j : Nat} (V : TellV w (Frz h₀ nw) cl d g vs ts) (V7 : VecAt (Frz h₀ (tl ++ nw)) y1 (vs ++ [v])) (hv : Tells w (Frz h₀ (tl ++ nw)) cl d v t) (ht : t.length ≤ 2) (hj : j < 33) (hz : vs.length ≤ 661 + j) (hp : piled ts ≤ 100000 + 4 * j) :
    TellV w (Frz h₀ (tl ++ nw)) cl d y1 (vs ++ [v]) (ts ++ [t]) ∧ (vs ++ [v]).length ≤ 661 + (j + 1) ∧ piled (ts ++ [t]) ≤ 100000 + 4 * (j + 1) := by
  refine ⟨V.snoc Frz.more V7 hv (by omega) (by omega), by rw [List.length_append]; show _ + 1 ≤ _; omega, ?_⟩
  rw [piled_append, piled_cons, piled_nil]
  omega
theorem front_grow (ts : List Str) (t : Str) : (vFront ts ++ (if 0 < ts.length then Str.ofString ", " else Str.ofString "")) ++ t = vFront (ts ++ [t]) := by
  by_cases h : ts = []
  · subst h
    have e : Str.ofString "" = Str.empty := by decide +kernel
    rw [if_neg (by decide), e, Str.append_empty]
    exact (front_one t).symm
  · rw [if_pos (List.length_pos_iff.mpr h), front_snoc h, Str.append_assoc]
/-- the invariant of the last loop -/
def GL (w : World) (h₀ : Heap) (cl : List Addr) (d : Nat) (y0 : Addr) (vs0 : List Value) (ts0 : List Str) (j : Nat) (m : Str → Option Value) (nw : List (Addr × Obj)) : Prop :=
  ∃ g vs ts u u', m (Str.ofString "vector") = some (.ref y0) ∧ m (Str.ofString "due") = some (.str (vText ts0) u') ∧ m (Str.ofString "grown") = some (.ref g) ∧ m (Str.ofString "front") = some (.str (vFront ts) u) ∧
    TellV w (Frz h₀ nw) cl d y0 vs0 ts0 ∧ TellV w (Frz h₀ nw) cl d g vs ts ∧ ts ≠ [] ∧ vs.length ≤ 661 + j ∧ piled ts ≤ 100000 + 4 * j ∧ ∀ b ∈ cl, ∃ o, (b, o) ∈ nw
/-- a run of range(33) -/
theorem loop33 {prog : Program} {env : Env} {E : Value → Shared → Prop} {Q : Flow → Shared → Prop} {x : Str} {body : List Stmt} {r : Addr} {t1 t2 t3 : Tok} {m₀ : Str → Option Value}
    (IR : IsRange s.heap r 0 33 1 t1 t2 t3) (hh : A.handled = none) (F : Fr h₀ env.locals s.heap m₀) (N : News h₀ env.locals s.heap nw) (hj : GL w h₀ cl d y0 vs0 ts0 0 m₀ nw)
    (turn : ∀ (j : Nat) t m₁ nw₁ h tk own, j < 33 → GL w h₀ cl d y0 vs0 ts0 j m₁ nw₁ → Apart own nw₁ → Fr h₀ env.locals h (fun y => if y = x then some (.int (j : Int) t) else m₁ y) → News h₀ env.locals h (nw₁ ++ own) →
      wpAny (model prog w) A (execs body env) (LPost h₀ env.locals (GL w h₀ cl d y0 vs0 ts0 (j + 1)) own { s with heap := h, toks := tk } Q) E { s with heap := h, toks := tk })
    (done : ∀ m₁ nw₁ h tk, GL w h₀ cl d y0 vs0 ts0 33 m₁ nw₁ → Fr h₀ env.locals h m₁ → News h₀ env.locals h nw₁ → Q .next { s with heap := h, toks := tk }) :
    wpAny (model prog w) A (pyIter (.ref r)) (fun it s₂ => LoopAtV prog w A h₀ env x body Q E it s₂) E s := by
  refine loop_range (n := 33) (GL w h₀ cl d y0 vs0 ts0) hh IR (by decide) (by decide) F N hj (fun j t m₁ nw₁ h tk own hj hJ ha F1 N1 => ?_) done
  rw [Int.zero_add] at F1
  exact turn j t m₁ nw₁ h tk own hj hJ ha F1 N1
def CutQ (h₀ : Heap) (L : Addr) (m : Str → Option Value) (news : List (Addr × Obj)) (s : Shared) (x : Str) (v : Value) (s' : Shared) : Prop := ∃ u h' tk, v = .str x u ∧ s' = { s with heap := h', toks := tk } ∧ Fr h₀ L h' m ∧ News h₀ L h' news
theorem CutQ.intro {news : List (Addr × Obj)} {x y : Str} {u : Tok} (F : Fr h₀ L h' m) (N : News h₀ L h' news) (e : y = x) : CutQ h₀ L m news s x (.str y u) { s with heap := h', toks := tk } := ⟨u, h', tk, by rw [e], rfl, F, N⟩
theorem cut_str {prog : Program} {env : Env} {e : Expr} {news : List (Addr × Obj)} {E Q : Value → Shared → Prop} (x : Str) (_F : Fr h₀ L s.heap m) (_N : News h₀ L s.heap news) (h : wpAny (model prog w) A (eval e env) (CutQ h₀ L m news s x) E s)
    (k : ∀ u h' tk, Fr h₀ L h' m → News h₀ L h' news → Q (.str x u) { s with heap := h', toks := tk }) : wpAny (model prog w) A (eval e env) Q E s :=
  wpAny_mono h (fun v s' => by rintro ⟨u, h', tk, rfl, rfl, F, N⟩; exact k u h' tk F N) fun _ _ q => q
theorem front_len (ts : List Str) : (vFront ts).length ≤ piled ts + 12 := by
  have z1 := vText_len ts
  have z2 := listText_piled ts
  have z3 : (vText ts).length = (vFront ts ++ Str.ofString "])").length := congrArg Str.length (vText_front ts)
  have z4 : (vFront ts ++ Str.ofString "])").length = (vFront ts).length + (Str.ofString "])").length := strLen_append _ _
  have z5 : (Str.ofString "])").length = 2 := by decide +kernel
  omega
theorem two_digits : ∀ j : Fin 33, (Str.ofString (toString ((j.val : Nat) : Int))).length ≤ 2 := by decide +kernel
end
end
end
section
open PySem PySem.W PyProof.Rows PySem.Calls
set_option maxHeartbeats 4000000
theorem fresh_Law3 : True := by w_top off; trivial
local macro_rules | `(tactic| k_inst) => `(tactic| first | exact inst_keeps (by assumption) (Fr.keep (by k_asm)) | exact inst_G (by k_asm) (by k_asm) (by assumption) (by assumption) (by first | exact fun q hq => hq | exact fun q hq => .tail _ hq | exact fun q hq => List.mem_append_left _ hq | exact fun q hq => .tail _ (.tail _ hq)))
local macro_rules | `(tactic| walk_at "call builtin:len") => `(tactic| (k_here; (with_reducible show wpAny _ _ (call (Value.builtin "len") [Value.ref _]) _ _ _); refine halt ?_))
local macro_rules | `(tactic| walk_at "call builtin:len") => `(tactic| (k_here; (with_reducible show wpAny _ _ (call (Value.builtin "len") [Value.ref _]) _ _ _); k_dflt (refine' call_len_list ?l ?z ?_; (case l => is_list); (case z => (simp only [List.size_toArray, List.length_cons, List.length_nil, List.length_append, List.length_map, List.length_take, List.length_drop]; omega)); k_whole); (try simp only [List.size_toArray])))
local macro_rules | `(tactic| ktr_rel) => `(tactic| first | exact Fr.keep (by k_asm) _ _ (by assumption) | exact News.get (by k_asm) (by k_mem))
local macro_rules | `(tactic| walk_at "call builtin:list.extend") => `(tactic| (k_here; (with_reducible show wpAny _ _ (call (Value.builtin _) [Value.ref _, Value.ref _]) _ _ _); k_dflt (refine' extend_G ?F ?N ?U ?b ?z ?z2 ?_; (case F => k_asm); (case N => k_asm); (case b => ktr_rel); (case U => intro _; k_upd); (case z => ((try simp only [List.length_append, List.length_cons, List.length_nil, List.length_take, List.length_drop]); omega)); (case z2 => ((try simp only [List.length_append, List.length_cons, List.length_nil, List.length_take, List.length_drop]); omega)); k_whole); intro h' n' F' N'; (try dsimp only at N'); (try k_sweep)))
local macro_rules | `(tactic| walk_at "assign Tuple") => `(tactic| (k_here; (with_reducible show wpAny _ _ (assign (Expr.Tuple _ _ _) _ (Value.ref _)) _ _ _); k_dflt (refine' unpackN_ ?F ?N ?T ?k1 ?k2 ?k3 ?_; (case F => k_asm); (case N => k_asm); (case T => refine News.isTup (by k_asm) (by k_mem)); (case k1 => assumption); (case k2 => exact rfl); (case k3 => exact rfl); k_whole); intro h' F' N'; (try k_sweep)))
local macro_rules | `(tactic| walk_at "call builtin:list.pop") => `(tactic| (k_here; (with_reducible show wpAny _ _ (call (Value.builtin _) [Value.ref _]) _ _ _); k_dflt (refine' pop_N ?F ?N ?U ?z ?_; (case F => k_asm); (case N => k_asm); (case U => k_upd); (case z => omega); k_whole); intro h' F' N'; (try dsimp only at N'); (try k_sweep)))
local macro_rules | `(tactic| walk_at "binaryOp Add str str") => `(tactic| (k_here; (with_reducible show wpAny _ _ (binaryOp Operator.Add (Value.str _ _) (Value.str _ _)) _ _ _); k_dflt (refine' PyProof.Rows.add_str ?_ ?z; (case z => ((try simp only [strLen_append]); omega)); k_whole); intro _ _; (try k_sweep)))
local macro_rules | `(tactic| walk_at "exec While Compare") => `(tactic| (k_here; refine halt ?_))
local macro_rules | `(tactic| walk_at "last exec While") => `(tactic| (k_here; refine halt ?_))
local macro_rules | `(tactic| walk_at "exec For") => `(tactic| (k_here; refine halt ?_))
local macro_rules | `(tactic| walk_at "exec For Name Call cons nil") => `(tactic| (k_here; refine halt ?_))
local macro_rules | `(tactic| walk_at "exec For Name BinOp cons nil") => `(tactic| (k_here; refine halt ?_))
local macro_rules | `(tactic| k_all) => `(tactic| assumption)
local macro_rules | `(tactic| walk_at "call ref") => `(tactic| (k_here; (with_reducible show wpAny _ _ (call (Value.ref 221) _) _ _ _); refine halt ?_))
local macro_rules | `(tactic| walk_at "call ref") => `(tactic| (k_here; (with_reducible show wpAny _ _ (call (Value.ref 320) _) _ _ _); refine halt ?_))
local macro_rules | `(tactic| walk_at "call type:str") => `(tactic| (k_here; (with_reducible show wpAny _ _ (call _ [Value.ref _]) _ _ _); refine halt ?_))
local macro_rules | `(tactic| walk_at "call builtin:repr") => `(tactic| (k_here; (with_reducible show wpAny _ _ (call _ [Value.ref _]) _ _ _); refine halt ?_))
local macro_rules | `(tactic| walk_at "compareOp NotEq str str") => `(tactic| (k_here; refine halt ?_))
local macro_rules | `(tactic| walk_at "compareOp Eq str str") => `(tactic| (k_here; refine halt ?_))
local macro_rules | `(tactic| walk_at "eval IfExp") => `(tactic| (k_here; (with_reducible show wpAny _ _ (eval (Expr.IfExp _ (Expr.Constant _ _ _) (Expr.Constant _ _ _) _) _) _ _ _); refine halt ?_))
/-- what the list that the law runs over is -/
def MidQ (h₀ : Heap) (L : Addr) (s : Shared) (xv : Value) (s₁ : Shared) : Prop :=
  ∃ D ws l h tk n m kA tA xA row tr nk nt nx kt, xv = .ref D ∧ s₁ = { s with heap := h, toks := tk } ∧ l.length ≤ 16 ∧ IntsAre ws l ∧ Fr h₀ L h m ∧ m (Str.ofString "kinds") = some (.ref kA) ∧ m (Str.ofString "things") = some (.ref tA) ∧ m (Str.ofString "texts") = some (.ref xA) ∧
    News h₀ L h ((D, lObj ws n) :: led kA tA xA nk nt nx [] ⟨0, kt, row, [], 0, tr, [], 0, []⟩ []) ∧ (D :: act kA tA xA [⟨0, kt, row, [], 0, tr, [], 0, []⟩]).Nodup
theorem For_mid {prog : Program} {w : World} {A : Around} {s : Shared} {env : Env} {h₀ : Heap} {m : Str → Option Value} {E : Value → Shared → Prop} {Q : Flow → Shared → Prop} {x : Str} {px pos : Pos} {iter : Expr} {body : List Stmt} (_F : Fr h₀ env.locals s.heap m) (hx : env.kindOf x = some .local)
    (hp : (env.scope.kind == .class || (env.scope.kind == .module && env.locals != env.globals)) = false)
    (h : wpAny (model prog w) A (eval iter env) (MidQ h₀ env.locals s) E s) (h2 : ∀ xv s₁, MidQ h₀ env.locals s xv s₁ → wpAny (model prog w) A (pyIter xv) (fun it s₂ => LoopAtV prog w A h₀ env x body Q E it s₂) E s₁)
    (hs : ∀ x, foldedSetIterable iter env x = pure x) (hE : PassesOwn (model prog w) A env E) : wpAny (model prog w) A (exec (.For (.Name x px) iter body [] pos) env) Q E s :=
  For_invV h₀ hx hp (wpAny_mono h (fun xv s₁ q => h2 xv s₁ q) fun _ _ e => e) hs hE
theorem ints_at {vs : List Value} {l : List Int} (h : IntsAre vs l) {i : Nat} {v : Value} (e : vs[i]? = some v) : ∃ n u, v = .int n u := by
  induction h generalizing i with
  | nil => cases e
  | cons n u _ ih =>
    cases i with
    | zero => cases e; exact ⟨n, u, rfl⟩
    | succ i => exact ih (i := i) e
theorem loop1 {prog : Program} {w : World} {A : Around} {s s₁ : Shared} {env : Env} {h₀ : Heap} {E : Value → Shared → Prop} {Q : Flow → Shared → Prop} {x : Str} {body : List Stmt} {xv : Value} (hq : MidQ h₀ env.locals s xv s₁) (hh : A.handled = none)
    (turn : ∀ i n u m₁ news₁ h tk own, i < 16 → LawJ w h₀ i m₁ news₁ → Apart own news₁ → Fr h₀ env.locals h (fun y => if y = x then some (.int n u) else m₁ y) → News h₀ env.locals h (news₁ ++ own) →
      wpAny (model prog w) A (execs body env) (LPost h₀ env.locals (LawJ w h₀ (i + 1)) own { s with heap := h, toks := tk } Q) E { s with heap := h, toks := tk })
    (done : ∀ i m₁ news₁ h tk, i ≤ 16 → LawJ w h₀ i m₁ news₁ → Fr h₀ env.locals h m₁ → News h₀ env.locals h news₁ → Q .next { s with heap := h, toks := tk }) :
    wpAny (model prog w) A (pyIter xv) (fun it s₂ => LoopAtV prog w A h₀ env x body Q E it s₂) E s₁ := by
  obtain ⟨D, ws, l, h, tk, n, m, kA, tA, xA, row, tr, nk, nt, nx, kt, rfl, rfl, hl, hI, F1, hmk, hmt, hmx, N1, hnd⟩ := hq
  have hwl : ws.length = l.length := hI.length
  have N2 : News h₀ env.locals h (led kA tA xA nk nt nx [] ⟨0, kt, row, [], 0, tr, [], 0, []⟩ []) := fun p hp => N1 p (.tail _ hp)
  have hD := N1 _ (.head _)
  rw [List.nodup_cons] at hnd
  refine loop_list (J := LawJ w h₀) hh hD.1 (fun q => hD.2.1 q.symm) (fun p hp q => hnd.1 ?_) F1 N2 ⟨kA, tA, xA, nk, nt, nx, [], ⟨0, kt, row, [], 0, tr, [], 0, []⟩, [], [], rfl, hmk, hmt, hmx, ?_⟩ ?_ ?_
  · rw [← show p.1 = D from q]
    have : (led kA tA xA nk nt nx [] ⟨0, kt, row, [], 0, tr, [], 0, []⟩ []).map Prod.fst = act kA tA xA [⟨0, kt, row, [], 0, tr, [], 0, []⟩] := rfl
    rw [← this]
    exact List.mem_map_of_mem hp
  · exact ⟨hnd.2, fun p hp => (by cases hp), fun x hx => (by rw [List.mem_singleton.mp hx]; exact .inl rfl), fun x hx => (by cases hx; rfl), fun x hx => (by rw [List.mem_singleton.mp hx]; exact ⟨.nil, rfl, fun j v t e1 _ => (by cases e1)⟩), Nat.zero_le _, fun x hx => (by rw [List.mem_singleton.mp hx]; exact Nat.zero_le _), Nat.zero_le _, fun b hb => (by cases hb)⟩
  · intro i v m₁ news₁ h' tk' own hi hJ ha F N
    obtain ⟨n', u, rfl⟩ := ints_at hI hi
    have := (List.getElem?_eq_some_iff.mp hi).1
    exact turn i n' u m₁ news₁ h' tk' own (by omega) hJ ha F N
  · intro m₁ news₁ h' tk' hJ F N
    exact done ws.length m₁ news₁ h' tk' (by omega) hJ F N
theorem midQ_of {h₀ h : Heap} {L D z D1 xA tr tA row kA : Addr} {m : Str → Option Value} {ws : List Value} {l : List Int} {oz o1 : Obj} {kt : Tok} {s : Shared} {tk : Nat} (F : Fr h₀ L h m) (hI : IntsAre ws l) (hl : l.length ≤ 16) (N : News h₀ L h [(D, lObj ws 0), (z, oz), (D1, o1), (xA, lObj [.ref tr] 0), (tr, lObj [] 0), (tA, lObj [.ref row] 0), (row, lObj [] 0), (kA, lObj [.int 0 kt] 0)])
    (o1' : @LT.lt Nat _ kA row) (o2 : @LT.lt Nat _ row tA) (o3 : @LT.lt Nat _ tA tr) (o4 : @LT.lt Nat _ tr xA) (o5 : @LT.lt Nat _ xA D) (e1 : m (Str.ofString "kinds") = some (.ref kA)) (e2 : m (Str.ofString "things") = some (.ref tA)) (e3 : m (Str.ofString "texts") = some (.ref xA)) : MidQ h₀ L s (.ref D) { s with heap := h, toks := tk } := by
  refine ⟨D, ws, l, h, tk, 0, m, kA, tA, xA, row, tr, 0, 0, 0, kt, rfl, rfl, hl, hI, F, e1, e2, e3, fun p hp => N p ?_, ?_⟩
  · simp only [led, kvs, rvs, xvs, objs, List.map_nil, List.nil_append, List.flatMap_nil, List.append_nil, List.mem_cons, List.not_mem_nil, or_false] at hp ⊢
    rcases hp with e | e | e | e | e | e <;> simp [e]
  · have : @List.Nodup Nat [D, kA, tA, xA, row, tr] := by
      simp only [List.nodup_cons, List.mem_cons, List.not_mem_nil, or_false, not_false_eq_true, List.nodup_nil, and_true]
      omega
    exact this
theorem mod_is {prog : Program} {w : World} {A : Around} {E : Value → Shared → Prop} {s : Shared} {a b k : Int} {t u : Tok} {Q : Value → Shared → Prop} (e : a.fmod b = k) (hb : b ≠ 0) (h : Q (.int k s.toks) { s with toks := s.toks + 1 }) : wpAny (model prog w) A (binaryOp .Mod (.int a t) (.int b u)) Q E s :=
  mod_int hb (e ▸ h)
local macro_rules | `(tactic| walk_at "binaryOp Mod int int") => `(tactic| (k_here; with_reducible refine mod_is (by assumption) (by decide) ?_))
local macro_rules | `(tactic| walk_at "call ref") => `(tactic| (k_here; (with_reducible show wpAny _ _ (call (Value.ref 327) _) _ _ _); refine halt ?_))
local macro_rules | `(tactic| walk_at "subscriptTail Name UnaryOp ref int") => `(tactic| (k_here; k_dflt (refine' item_last ?l ?_; (case l => is_list); k_whole)))
theorem strs_len {vs : List Value} {ss : List Str} (h : StrsAre vs ss) : vs.length = ss.length := by
  induction h with
  | nil => rfl
  | cons y t _ ih => rw [List.length_cons, List.length_cons, ih]
theorem LawSt.lens {w : World} {h₀ : Heap} {kA tA xA : Addr} {d N P : Nat} {low : List Lvl} {top : Lvl} {fr : List (Addr × Obj)} {cl : List Addr} (S : LawSt w h₀ kA tA xA d N P low top fr cl) (hN : N ≤ 850) : top.vs.length ≤ 850 ∧ top.tv.length ≤ 850 := by
  have hm : top ∈ low ++ [top] := List.mem_append_right _ (.head _)
  have h1 := S.hz top hm
  have h2 := strs_len (S.hs top hm).1
  have h3 := (S.hs top hm).2.1
  omega
theorem drop1 {h₀ h' : Heap} {L : Addr} {a : Addr × Obj} {l : List (Addr × Obj)} (N : News h₀ L h' (a :: l)) : News h₀ L h' l := fun q hq => N q (.tail _ hq)
theorem app_end2 {w : World} {h₀ h' : Heap} {L : Addr} {m : Str → Option Value} {d N P nk nt nx : Nat} {kA tA xA : Addr} {low : List Lvl} {top : Lvl} {fr own : List (Addr × Obj)} {cl : List Addr} {v : Value} {t : Str} {u : Tok} {rn tn N' P' : Nat} (S : LawSt w h₀ kA tA xA d N P low top fr cl) (F : Fr h₀ L h' m)
    (Nw : News h₀ L h' ((kA, lObj (kvs low ++ [.int top.k top.kt]) nk) :: (tA, lObj (rvs low ++ [.ref top.row]) nt) :: (xA, lObj (xvs low ++ [.ref top.tr]) nx) :: (top.row, lObj (top.vs ++ [v]) rn) :: (top.tr, lObj (top.tv ++ [.str t u]) tn) :: ((objs low ++ fr) ++ own)))
    (h : Tells w (Frz h₀ fr) cl d v t) (hN : N + 1 ≤ N') (hP : P + (t.length + 2) ≤ P') :
    News h₀ L h' (led kA tA xA nk nt nx low ⟨top.k, top.kt, top.row, top.vs ++ [v], rn, top.tr, top.tv ++ [.str t u], tn, top.ts ++ [t]⟩ fr ++ own) ∧ LawSt w h₀ kA tA xA d N' P' low ⟨top.k, top.kt, top.row, top.vs ++ [v], rn, top.tr, top.tv ++ [.str t u], tn, top.ts ++ [t]⟩ fr cl :=
  ⟨Nw, (S.app h).up (Nat.le_refl _) hN hP⟩
theorem word_fin : ∀ c : Fin 26, ∀ k : Fin 4, (Txt.mul ⟨#[(97 + ((c.val : Nat) : Int)).toNat]⟩ ((k.val : Nat) : Int)).length ≤ 3 ∧ reprText (Txt.mul ⟨#[(97 + ((c.val : Nat) : Int)).toNat]⟩ ((k.val : Nat) : Int)) = Str.ofString "'" ++ Txt.mul ⟨#[(97 + ((c.val : Nat) : Int)).toNat]⟩ ((k.val : Nat) : Int) ++ Str.ofString "'" := by decide +kernel
theorem word_key {c k : Int} (h1 : 0 ≤ c ∧ c < 26) (h2 : 0 ≤ k ∧ k < 4) : (Txt.mul ⟨#[(97 + c).toNat]⟩ k).length ≤ 3 ∧ reprText (Txt.mul ⟨#[(97 + c).toNat]⟩ k) = Str.ofString "'" ++ Txt.mul ⟨#[(97 + c).toNat]⟩ k ++ Str.ofString "'" := by
  have := word_fin ⟨c.toNat, by omega⟩ ⟨k.toNat, by omega⟩
  dsimp only at this
  rw [Int.toNat_of_nonneg h1.1, Int.toNat_of_nonneg h2.1] at this
  exact this
local macro_rules | `(tactic| walk_at "binaryOp Mult str int") => `(tactic| (k_here; refine SB.mul (mulOk_of 16 1048576 (show _ ≤ 16 from Nat.le_of_ble_eq_true rfl) (by omega) (by omega) (by decide) (by decide)) ?_; intro _ _))
theorem For_F {prog : Program} {w : World} {A : Around} {s : Shared} {env : Env} {h₀ : Heap} {m : Str → Option Value} {E : Value → Shared → Prop} {Q : Flow → Shared → Prop} {x : Str} {px pos : Pos} {iter : Expr} {body : List Stmt} (_F : Fr h₀ env.locals s.heap m) (hx : env.kindOf x = some .local)
    (hp : (env.scope.kind == .class || (env.scope.kind == .module && env.locals != env.globals)) = false)
    (h : wpAny (model prog w) A (eval iter env) (fun xv s₁ => wpAny (model prog w) A (pyIter xv) (fun it s₂ => LoopAtV prog w A h₀ env x body Q E it s₂) E s₁) E s)
    (hs : ∀ x, foldedSetIterable iter env x = pure x) (hE : PassesOwn (model prog w) A env E) : wpAny (model prog w) A (exec (.For (.Name x px) iter body [] pos) env) Q E s :=
  For_invV h₀ hx hp h hs hE
local macro_rules | `(tactic| walk_at "call type:range") => `(tactic| (k_here; (with_reducible show wpAny _ _ (call (Value.type "range") [Value.int _ _]) _ _ _); k_dflt (refine' range_N ?F ?N ?_; (case F => k_asm); (case N => k_asm); k_whole); intro r' t1' t2' h' tk' F' N' IR'))
local macro_rules | `(tactic| walk_at "call type:range") => `(tactic| (k_here; (with_reducible show wpAny _ _ (call (Value.type "range") [Value.int 33 _]) _ _ _); refine halt ?_))
theorem snoc_of {l : List Lvl} (h : l ≠ []) : ∃ a b, l = a ++ [b] := ⟨l.dropLast, l.getLast h, (List.dropLast_concat_getLast h).symm⟩
set_option maxHeartbeats 100000000 in
theorem lawGo : PySem.Challenge.rw_im0012_01.Holds := by
  refine atop ?_
  k_go0
  k_steps
  show wpAny _ _ _ _ _ _
  refine For_mid ‹Fr _ _ _ _› (by rfl) (by rfl) ?_ ?_ (by intro _; rfl) (by passes_own)
  · k_steps
    all_goals
      have l1 := ‹_ ∧ _ ∧ _ ∧ _ ∧ _ ∧ _ ∧ _›
      refine midQ_of ‹Fr _ _ _ _› ‹IntsAre _ (_ ++ _)› ?_ ‹News _ _ _ _› ?_ ?_ ?_ ?_ ?_ rfl rfl rfl
    all_goals first | omega | (simp only [List.length_append, List.length_cons, List.length_nil]; omega)
  · intro xv s₁ hq
    refine loop1 hq rfl ?_ ?_
    · rintro i n u m₁ _ h tk own hi ⟨kA, tA, xA, nk, nt, nx, low, top, fr, cl, rfl, e1, e2, e3, S⟩ ha F N
      rw [m_lay e1 e2 e3] at F
      obtain ⟨⟨d1, d2, d3, d4, d5, d6, d7, d8, d9, d10⟩, q1, q2, q3, q4, q5⟩ := S.sep ha
      simp only [led, List.cons_append] at N
      generalize hrest : (objs low ++ fr) ++ own = rest at N q1 q2 q3 q4 q5
      have hlow := S.hl
      have hn7 : 0 ≤ n.fmod 7 ∧ n.fmod 7 < 7 := ⟨Int.fmod_nonneg_of_pos _ (by decide), Int.fmod_lt_of_pos _ (by decide)⟩
      have hl3 : (kvs low ++ [Value.int top.k top.kt]).length = low.length + 1 := by rw [List.length_append, kvs, List.length_map]; rfl
      obtain ⟨hv1, hv2⟩ := S.lens (by omega)
      clear e1 e2 e3
      have h07 : n.fmod 7 = 0 ∨ n.fmod 7 = 1 ∨ n.fmod 7 = 2 ∨ n.fmod 7 = 3 ∨ n.fmod 7 = 4 ∨ n.fmod 7 = 5 ∨ n.fmod 7 = 6 := by omega
      clear hn7
      rcases h07 with h07 | h07 | h07 | h07 | h07 | h07 | h07
      · by_cases h8 : low.length + 1 < 8
        · k_steps
          subst hrest
          have N9 := ‹News _ _ _ _›
          have F9 := ‹Fr _ _ _ _›
          exact push_end (by decide) S F9 N9 ha h8 (by assumption) (by assumption) rfl rfl rfl
        · k_steps
          subst hrest
          have N9 := ‹News _ _ _ _›
          have F9 := ‹Fr _ _ _ _›
          exact turn_end F9 N9 ha rfl rfl rfl (S.up (Nat.le_succ _) (by omega) (by omega))
      · by_cases h8 : low.length + 1 < 8
        · k_steps
          subst hrest
          have N9 := ‹News _ _ _ _›
          have F9 := ‹Fr _ _ _ _›
          exact push_end (by decide) S F9 N9 ha h8 (by assumption) (by assumption) rfl rfl rfl
        · k_steps
          subst hrest
          have N9 := ‹News _ _ _ _›
          have F9 := ‹Fr _ _ _ _›
          exact turn_end F9 N9 ha rfl rfl rfl (S.up (Nat.le_succ _) (by omega) (by omega))
      · by_cases h8 : low.length + 1 < 8
        · k_steps
          subst hrest
          have N9 := ‹News _ _ _ _›
          have F9 := ‹Fr _ _ _ _›
          exact push_end (by decide) S F9 N9 ha h8 (by assumption) (by assumption) rfl rfl rfl
        · k_steps
          subst hrest
          have N9 := ‹News _ _ _ _›
          have F9 := ‹Fr _ _ _ _›
          exact turn_end F9 N9 ha rfl rfl rfl (S.up (Nat.le_succ _) (by omega) (by omega))
      · by_cases h8 : 1 < low.length + 1
        · k_steps
          subst hrest
          obtain ⟨low, t2, rfl⟩ := snoc_of (l := low) (by intro e; rw [e] at h8; simp at h8)
          have N3 := ‹News _ _ _ _›
          have F3 := ‹Fr _ _ _ _›
          show wpAny _ _ _ _ _ _
          refine close_N F3 ‹(atop.heap_39 _).In _› ‹Top _ _ _ _ _ _› N3 S ha (by omega) (by omega) (by k_room) rfl fun h5 tk5 p pn thing t u5 nk5 nt5 nx5 tl F4 N4 gp gt gk alt => ?_
          obtain ⟨fr', cl', N5, S5, H5, hlen, hle, hp1, hp2, ha5⟩ := close_after S (by omega) (by omega) N4 gp gt ha alt
          clear F3 N3 N4 gp gt gk alt F N
          obtain ⟨⟨c1, c2, c3, c4, c5, c6, c7, c8, c9, c10⟩, r1, r2, r3, r4, r5⟩ := S5.sep ha5
          obtain ⟨hv3, hv4⟩ := S5.lens (by omega)
          simp only [led, List.cons_append] at N5
          generalize hrest : (objs low ++ fr') ++ own = rest at N5 r1 r2 r3 r4 r5
          k_steps
          subst hrest
          have N9 := ‹News _ _ _ _›
          have F9 := ‹Fr _ _ _ _›
          simp only [List.push_toArray] at N9
          obtain ⟨N10, S10⟩ := app_end2 (N' := 40 * (i + 1)) (P' := 1400 * (i + 1)) S5 F9 (drop1 N9) H5 (by omega) (by omega)
          exact turn_end F9 N10 (apart_same (top := t2) rfl rfl ha5) rfl rfl rfl S10
        · k_steps
          subst hrest
          have N9 := ‹News _ _ _ _›
          have F9 := ‹Fr _ _ _ _›
          exact turn_end F9 N9 ha rfl rfl rfl (S.up (Nat.le_succ _) (by omega) (by omega))
      · have w1 : 0 ≤ (n.fdiv 7).fmod 36 ∧ (n.fdiv 7).fmod 36 < 36 := ⟨Int.fmod_nonneg_of_pos _ (by decide), Int.fmod_lt_of_pos _ (by decide)⟩
        have w2 : 0 ≤ (n.fdiv 7).fmod (10 ^ 30) ∧ (n.fdiv 7).fmod (10 ^ 30) < 10 ^ 30 := ⟨Int.fmod_nonneg_of_pos _ (by decide), Int.fmod_lt_of_pos _ (by decide)⟩
        have nh : True := trivial
        k_steps
        · have F3 := ‹Fr _ _ _ _›
          show wpAny _ _ _ _ _ _
          refine For_F F3 (by rfl) (by rfl) ?_ (by intro _; rfl) (by passes_own)
          clear F3
          iterate 12 (first | (k_unfold; (try dsimp only)) | (k_end; wrow_close) | walk1 | (dsimp only; walk1) | (leave1; walk_say "STEP leave1"; try dsimp only) | fail "no step")
          have F4 := ‹Fr _ _ _ _›
          have N3 := ‹News _ _ _ _›
          refine range_N F4 N3 fun r rt1 rt2 h6 tk6 F6 N6 IR => ?_
          clear F4 N3
          dsimp only
          subst hrest
          refine inner IR (by omega) rfl F6 N6 S ha ?_ ?_
          · rintro j t nk2 nt2 nx2 T h5 tk5 own' hj r1 r2 S2 haA haB ha1 F5 N5
            obtain ⟨⟨c1, c2, c3, c4, c5, c6, c7, c8, c9, c10⟩, q1, q2, q3, q4, q5⟩ := S2.sep haA
            obtain ⟨hv3, hv4⟩ := S2.lens (by omega)
            simp only [led, List.cons_append] at N5
            generalize hrest : (objs low ++ fr) ++ (own ++ own') = rest at N5 q1 q2 q3 q4 q5
            clear F6 N6 IR F N d1 d2 d3 d4 d5 d6 d7 d8 d9 d10
            k_steps
            subst hrest
            have N9 := ‹News _ _ _ _›
            have F9 := ‹Fr _ _ _ _›
            simp only [List.push_toArray] at N9
            have hb : -(10 ^ 30) < n.fdiv 7 + (j : Int) ∧ n.fdiv 7 + (j : Int) < 10 ^ 31 := by
              have hx := ‹(if n.fdiv 7 < 0 then -n.fdiv 7 else n.fdiv 7) < 10 ^ Int.toNat 30›
              have hx' : (if n.fdiv 7 < 0 then -n.fdiv 7 else n.fdiv 7) < 10 ^ 30 := hx
              split at hx' <;> omega
            obtain ⟨N10, S10⟩ := app_end2 (own := own ++ own') (N' := 40 * i + (j + 1)) (P' := 1400 * i + 36 * (j + 1)) S2 F9 N9 (.leaf (ReprIs.int _ (int_dig hb.1 hb.2))) (by omega) (by have := int_len hb.1 hb.2; omega)
            exact in_end F9 N10 r1 r2 (apart_same (top := T) rfl rfl ha1) (apart_same (top := T) rfl rfl (fun p hp q hq => haB p hp q (List.mem_append_left _ hq))) (fun p hp q hq => haB p hp q (List.mem_append_right _ hq)) S10
          · intro v6 nk2 nt2 nx2 T h5 tk5 r1 r2 S2 ha2 F5 N5
            dsimp only
            k_steps
            have F9 := ‹Fr _ _ _ _›
            exact turn_end F9 N5 ha2 rfl rfl rfl (S2.up (Nat.le_succ i) (by omega) (by omega))
        · have F3 := ‹Fr _ _ _ _›
          show wpAny _ _ _ _ _ _
          refine For_F F3 (by rfl) (by rfl) ?_ (by intro _; rfl) (by passes_own)
          clear F3
          iterate 12 (first | (k_unfold; (try dsimp only)) | (k_end; wrow_close) | walk1 | (dsimp only; walk1) | (leave1; walk_say "STEP leave1"; try dsimp only) | fail "no step")
          have F4 := ‹Fr _ _ _ _›
          have N3 := ‹News _ _ _ _›
          refine range_N F4 N3 fun r rt1 rt2 h6 tk6 F6 N6 IR => ?_
          clear F4 N3
          dsimp only
          subst hrest
          refine inner IR (by omega) rfl F6 N6 S ha ?_ ?_
          · rintro j t nk2 nt2 nx2 T h5 tk5 own' hj r1 r2 S2 haA haB ha1 F5 N5
            obtain ⟨⟨c1, c2, c3, c4, c5, c6, c7, c8, c9, c10⟩, q1, q2, q3, q4, q5⟩ := S2.sep haA
            obtain ⟨hv3, hv4⟩ := S2.lens (by omega)
            simp only [led, List.cons_append] at N5
            generalize hrest : (objs low ++ fr) ++ (own ++ own') = rest at N5 q1 q2 q3 q4 q5
            clear F6 N6 IR F N d1 d2 d3 d4 d5 d6 d7 d8 d9 d10
            k_steps
            subst hrest
            have N9 := ‹News _ _ _ _›
            have F9 := ‹Fr _ _ _ _›
            simp only [List.push_toArray] at N9
            have hb : -(10 ^ 30) < (n.fdiv 7).fmod (10 ^ Int.toNat 30) + (j : Int) ∧ (n.fdiv 7).fmod (10 ^ Int.toNat 30) + (j : Int) < 10 ^ 31 := by
              have w3 : 0 ≤ (n.fdiv 7).fmod (10 ^ Int.toNat 30) ∧ (n.fdiv 7).fmod (10 ^ Int.toNat 30) < 10 ^ 30 := w2
              generalize (n.fdiv 7).fmod (10 ^ Int.toNat 30) = lz at w3 ⊢
              omega
            obtain ⟨N10, S10⟩ := app_end2 (own := own ++ own') (N' := 40 * i + (j + 1)) (P' := 1400 * i + 36 * (j + 1)) S2 F9 N9 (.leaf (ReprIs.int _ (int_dig hb.1 hb.2))) (by omega) (by have := int_len hb.1 hb.2; omega)
            exact in_end F9 N10 r1 r2 (apart_same (top := T) rfl rfl ha1) (apart_same (top := T) rfl rfl (fun p hp q hq => haB p hp q (List.mem_append_left _ hq))) (fun p hp q hq => haB p hp q (List.mem_append_right _ hq)) S10
          · intro v6 nk2 nt2 nx2 T h5 tk5 r1 r2 S2 ha2 F5 N5
            dsimp only
            k_steps
            have F9 := ‹Fr _ _ _ _›
            exact turn_end F9 N5 ha2 rfl rfl rfl (S2.up (Nat.le_succ i) (by omega) (by omega))
      · have w1 : 0 ≤ (n.fdiv 7).fmod 26 ∧ (n.fdiv 7).fmod 26 < 26 := ⟨Int.fmod_nonneg_of_pos _ (by decide), Int.fmod_lt_of_pos _ (by decide)⟩
        have w2 : 0 ≤ ((n.fdiv 7).fdiv 26).fmod 4 ∧ ((n.fdiv 7).fdiv 26).fmod 4 < 4 := ⟨Int.fmod_nonneg_of_pos _ (by decide), Int.fmod_lt_of_pos _ (by decide)⟩
        obtain ⟨wk1, wk2⟩ := word_key w1 w2
        have hS := sizeLine_eq
        have s1 : (Str.ofString "'").length = 1 := by decide +kernel
        have hz2 : (reprText (Txt.mul ⟨#[(97 + (n.fdiv 7).fmod 26).toNat]⟩ (((n.fdiv 7).fdiv 26).fmod 4))).length ≤ sizeLine := by rw [wk2, strLen_append, strLen_append]; omega
        k_steps
        subst hrest
        have N9 := ‹News _ _ _ _›
        have F9 := ‹Fr _ _ _ _›
        simp only [List.push_toArray] at N9
        obtain ⟨N10, S10⟩ := app_end2 (N' := 40 * (i + 1)) (P' := 1400 * (i + 1)) (S.up (Nat.le_succ i) (Nat.le_refl _) (Nat.le_refl _)) F9 N9 (.leaf (wk2 ▸ ReprIs.str _ _ hz2)) (by omega) (by simp only [strLen_append]; omega)
        exact turn_end F9 N10 (apart_same (top := top) rfl rfl ha) rfl rfl rfl S10
      · have h3 : 0 ≤ (n.fdiv 7).fmod 3 ∧ (n.fdiv 7).fmod 3 < 3 := ⟨Int.fmod_nonneg_of_pos _ (by decide), Int.fmod_lt_of_pos _ (by decide)⟩
        have h3' : (n.fdiv 7).fmod 3 = 0 ∨ (n.fdiv 7).fmod 3 = 1 ∨ (n.fdiv 7).fmod 3 = 2 := by omega
        clear h3
        rcases h3' with h3 | h3 | h3
        · k_steps
          subst hrest
          have N9 := ‹News _ _ _ _›
          have F9 := ‹Fr _ _ _ _›
          simp only [List.push_toArray] at N9
          obtain ⟨N10, S10⟩ := app_end2 (N' := 40 * (i + 1)) (P' := 1400 * (i + 1)) (S.up (Nat.le_succ i) (Nat.le_refl _) (Nat.le_refl _)) F9 (drop1 (drop1 N9)) (.leaf (ReprIs.bool true)) (by omega) (Nat.le_trans (Nat.add_le_add_left (show _ ≤ 7 by decide +kernel) _) (by omega))
          exact turn_end F9 N10 (apart_same (top := top) rfl rfl ha) rfl rfl rfl S10
        · k_steps
          subst hrest
          have N9 := ‹News _ _ _ _›
          have F9 := ‹Fr _ _ _ _›
          simp only [List.push_toArray] at N9
          obtain ⟨N10, S10⟩ := app_end2 (N' := 40 * (i + 1)) (P' := 1400 * (i + 1)) (S.up (Nat.le_succ i) (Nat.le_refl _) (Nat.le_refl _)) F9 (drop1 (drop1 N9)) (.leaf (ReprIs.bool false)) (by omega) (Nat.le_trans (Nat.add_le_add_left (show _ ≤ 7 by decide +kernel) _) (by omega))
          exact turn_end F9 N10 (apart_same (top := top) rfl rfl ha) rfl rfl rfl S10
        · k_steps
          subst hrest
          have N9 := ‹News _ _ _ _›
          have F9 := ‹Fr _ _ _ _›
          simp only [List.push_toArray] at N9
          obtain ⟨N10, S10⟩ := app_end2 (N' := 40 * (i + 1)) (P' := 1400 * (i + 1)) (S.up (Nat.le_succ i) (Nat.le_refl _) (Nat.le_refl _)) F9 (drop1 (drop1 N9)) (.leaf (ReprIs.none)) (by omega) (Nat.le_trans (Nat.add_le_add_left (show _ ≤ 7 by decide +kernel) _) (by omega))
          exact turn_end F9 N10 (apart_same (top := top) rfl rfl ha) rfl rfl rfl S10
    · rintro i m₁ _ h tk hi ⟨kA, tA, xA, nk, nt, nx, low, top, fr, cl, rfl, e1, e2, e3, S⟩ F N
      dsimp only
      k_steps
      have N1 := ‹News _ _ _ _›
      have F1 := ‹Fr _ _ _ _›
      show wpAny _ _ _ _ _ _
      refine While_inv (LawW _ _) (n₀ := low.length) F1 N1 ⟨kA, tA, xA, nk, nt, nx, low, top, fr, cl, rfl, e1, e2, e3, S.toW hi, rfl⟩ ?_ (by passes_own)
      clear F1 N1 F N S e1 e2 e3
      rintro k m₂ _ h1 tk1 F2 N2 ⟨kA, tA, xA, nk, nt, nx, low, top, fr, cl, rfl, e1, e2, e3, S, hk⟩
      rw [m_lay e1 e2 e3] at F2
      obtain ⟨⟨d1, d2, d3, d4, d5, d6, d7, d8, d9, d10⟩, q1, q2, q3, q4, q5⟩ := S.sep (nk := nk) (nt := nt) (nx := nx) (own := []) (fun p hp => by cases hp)
      have hlow := S.hl
      have hl3 : (kvs low ++ [Value.int top.k top.kt]).length = low.length + 1 := by rw [List.length_append, kvs, List.length_map]; rfl
      obtain ⟨hv1, hv2⟩ := S.lens (by omega)
      rw [← List.append_nil (led kA tA xA nk nt nx low top fr)] at N2
      simp only [led, List.cons_append] at N2
      generalize hrest : (objs low ++ fr) ++ [] = rest at N2 q1 q2 q3 q4 q5
      clear e1 e2 e3
      by_cases h8 : 1 < low.length + 1
      · k_steps
        subst hrest
        obtain ⟨low, t2, rfl⟩ := snoc_of (l := low) (by intro e; rw [e] at h8; simp at h8)
        have N3 := ‹News _ _ _ _›
        have F3 := ‹Fr _ _ _ _›
        have ha : Apart [] (led kA tA xA nk nt nx (low ++ [t2]) top fr) := fun p hp => by cases hp
        show wpAny _ _ _ _ _ _
        refine close_N F3 ‹(atop.heap_39 _).In _› ‹Top _ _ _ _ _ _› N3 S ha (by omega) (by omega) (by k_room) rfl fun h5 tk5 p pn thing t u5 nk5 nt5 nx5 tl F4 N4 gp gt gk alt => ?_
        obtain ⟨fr', cl', N5, S5, H5, hlen, hle, hp1, hp2, ha5⟩ := close_after S (by omega) (by omega) N4 gp gt ha alt
        clear F3 N3 N4 gp gt gk alt F2 N2
        obtain ⟨⟨c1, c2, c3, c4, c5, c6, c7, c8, c9, c10⟩, r1, r2, r3, r4, r5⟩ := S5.sep ha5
        obtain ⟨hv3, hv4⟩ := S5.lens (by omega)
        simp only [led, List.cons_append] at N5
        generalize hrest : (objs low ++ fr') ++ [] = rest at N5 r1 r2 r3 r4 r5
        k_steps
        subst hrest
        have N9 := ‹News _ _ _ _›
        have F9 := ‹Fr _ _ _ _›
        simp only [List.push_toArray] at N9
        have hl9 : low.length + 1 = k := by rw [← hk, List.length_append]; rfl
        obtain ⟨N10, S10⟩ := app_end2 (N' := 650 - low.length) (P' := 23000 - 14 * low.length) S5 F9 (drop1 N9) H5 (by omega) (by omega)
        rw [List.append_nil] at N10
        exact WhileStep.intro F9 N10 (n' := low.length) (by omega) ⟨kA, tA, xA, nk5, nt5, nx5, low, _, fr', cl', rfl, rfl, rfl, rfl, S10.up (by omega) (Nat.le_refl _) (Nat.le_refl _), rfl⟩
      · k_steps
        subst hrest
        have N3 := ‹News _ _ _ _›
        have F3 := ‹Fr _ _ _ _›
        have ha : Apart [] (led kA tA xA nk nt nx low top fr) := fun p hp => by cases hp
        show wpAny _ _ _ _ _ _
        refine close_N F3 ‹(atop.heap_39 _).In _› ‹Top _ _ _ _ _ _› N3 S ha (by omega) (by omega) (by k_room) rfl fun h5 tk5 p pn thing t u5 nk5 nt5 nx5 tl F4 N4 gp gt gk alt => ?_
        obtain ⟨fr', cl', y0, vs, ts, rfl, rfl, N5, V5, hdom, hvs, hpl⟩ := last_close (List.length_eq_zero_iff.mp (by omega)) S (by omega) (by omega) N4 alt
        clear F3 N3 N4 gp gt gk alt F2 N2 S ha hv1 hv2 hl3 q1 q2 q3 q4 q5 d1 d2 d3 d4 d5 d6 d7 d8 d9 d10
        replace V5 := V5.up (fun _ _ h => h) (d' := 30) (by omega)
        replace hvs : vs.length ≤ 660 := by omega
        replace hpl : piled ts ≤ 23000 := by omega
        k_steps
        have N6 := ‹News _ _ _ _›
        have F6 := ‹Fr _ _ _ _›
        show wpAny _ _ _ _ _ _
        refine strV_N F6 ‹(atop.heap_39 _).In _› ‹Top _ _ _ _ _ _› N6 V5 (frz_get F6 N6 fun q hq => .tail _ hq) (dom_get N6 (fun q hq => .tail _ hq) hdom) (by k_room) (by k_units) rfl rfl fun h7 u7 tk7 F7 N7 => ?_
        clear F6 N6
        k_steps
        show wpAny _ _ _ _ _ _
        refine ne_same rfl ?_
        k_steps
        have N6 := ‹News _ _ _ _›
        have F6 := ‹Fr _ _ _ _›
        show wpAny _ _ _ _ _ _
        refine reprV_N F6 ‹(atop.heap_39 _).In _› ‹Top _ _ _ _ _ _› N6 V5 (frz_get F6 N6 fun q hq => .tail _ hq) (dom_get N6 (fun q hq => .tail _ hq) hdom) (by k_room) (by k_units) rfl rfl fun h8 u8 tk8 F8 N8 => ?_
        clear F6 N6
        k_steps
        show wpAny _ _ _ _ _ _
        refine ne_same rfl ?_
        k_steps
        have N6 := ‹News _ _ _ _›
        have F6 := ‹Fr _ _ _ _›
        have l6 := ‹_ ∧ AllLt _ _›
        have hS := sizeLine_eq
        have hlt := listText_piled ts
        have hvl := vText_len ts
        have c1 : (Str.ofString "[").length = 1 := by decide +kernel
        have c2 : (Str.ofString ", 3]").length = 4 := by decide +kernel
        have c3 : (Str.ofString ", ").length = 2 := by decide +kernel
        have c4 : (Str.ofString "])").length = 2 := by decide +kernel
        have c5 : (Str.ofString "pvector(").length = 8 := by decide +kernel
        have c6 : (Str.ofString ")").length = 1 := by decide +kernel
        have c7 : (Str.ofString "").length = 0 := by decide +kernel
        show wpAny _ _ _ _ _ _
        refine strL_N F6 ‹(atop.heap_39 _).In _› ‹Top _ _ _ _ _ _› N6 V5 (frz_get F6 N6 fun q hq => .tail _ (.tail _ hq)) (dom_get N6 (fun q hq => .tail _ (.tail _ hq)) hdom) (N6 _ (.head _)).1 (fun hb => by
          obtain ⟨o, ho⟩ := hdom _ hb
          exact Nat.lt_irrefl _ (allLt_mem l6.2 _ ho)) (by k_room) (by k_units) rfl rfl fun h9 u9 tk9 F9 N9 => ?_
        replace N9 := drop1 N9
        clear F6 N6 l6
        k_steps
        show wpAny _ _ _ _ _ _
        refine ne_same (list_three _) ?_
        obtain ⟨vc, vr, vsh, vt, vo, vdx, vdn, hx, hdx⟩ := V5.V.parts
        k_steps
        have F6 := ‹Fr _ _ _ _›
        have N6 := drop1 ‹News _ _ _ _›
        rw [← List.append_nil fr'] at N6
        show wpAny _ _ _ _ _ _
        refine append_N F6 ‹(atop.heap_39 _).In _› ‹Top _ _ _ _ _ _› N6 (fun p hp => by cases hp) V5.V (by omega) (by k_room) rfl fun y1 tl1 h10 tk10 F7 N7 ha7 V7 => ?_
        rw [List.append_nil] at N7
        obtain ⟨V6, G7, hp7, hne7⟩ := grow1 V5 V7 hvs hpl
        have hdom7 := dom_more (tl := tl1) hdom
        have hlen0 : ts.length = vs.length := V5.hlen
        replace hx := Frz.more (tl := tl1) _ _ hx
        replace hdx := Frz.more (tl := tl1) _ _ hdx
        clear F6 N6 V5 V7 ha7 hdom N9 F9
        generalize tl1 ++ fr' = nw at N7 G7 V6 hdom7 hx hdx
        k_steps
        show wpAny _ _ _ _ _ _
        refine cut_str (if 0 < ts.length then Str.ofString ", " else Str.ofString "") ‹Fr _ _ _ _› ‹News _ _ _ _› ?_ ?_
        · refine IfExp_ ?_
          k_steps
          have F6 := ‹Fr _ _ _ _›
          have N6 := ‹News _ _ _ _›
          show wpAny _ _ _ _ _ _
          refine lenV_N F6 ‹(atop.heap_39 _).In _› ‹Top _ _ _ _ _ _› N6 V6.V (frz_get F6 N6 fun q hq => hq) V6.hz (by k_room) rfl fun h11 u11 tk11 F8 N8 => ?_
          clear F6 N6
          by_cases h0 : 0 < ts.length
          · have h1 : (0 : Int) < (vs.length : Int) := by omega
            k_steps
            exact CutQ.intro F8 N8 (by rw [if_pos h0])
          · have h1 : ¬ (0 : Int) < (vs.length : Int) := by omega
            k_steps
            exact CutQ.intro F8 N8 (by rw [if_neg h0])
        · intro u8 h8 tk8 F8 N8
          k_steps
          have F6 := ‹Fr _ _ _ _›
          have N6 := ‹News _ _ _ _›
          rw [slice_front, front_grow] at F6
          show wpAny _ _ _ _ _ _
          refine strV_N F6 ‹(atop.heap_39 _).In _› ‹Top _ _ _ _ _ _› N6 G7 (frz_get F6 N6 fun q hq => hq) (dom_get N6 (fun q hq => hq) hdom7) (by k_room) (by k_units) rfl rfl fun h12 u12 tk12 F9 N9 => ?_
          clear F6 N6
          have hvf := front_len (ts ++ [vText ts])
          generalize hts1 : ts ++ [vText ts] = ts1 at *
          k_steps
          show wpAny _ _ _ _ _ _
          refine ne_same (vText_front _) ?_
          k_steps
          have F6 := ‹Fr _ _ _ _›
          show wpAny _ _ _ _ _ _
          refine For_F F6 (by rfl) (by rfl) ?_ (by intro _; rfl) (by passes_own)
          clear F6
          k_steps
          have F4 := ‹Fr _ _ _ _›
          have N3 := ‹News _ _ _ _›
          show wpAny _ _ _ _ _ _
          refine range_N F4 N3 fun r rt1 rt2 h6 tk6 F6 N6 IR => ?_
          clear F4 N3 F9
          dsimp only
          have hvl1 : (vs ++ [Value.ref y0]).length ≤ 661 + 0 := by rw [List.length_append]; exact Nat.succ_le_succ hvs
          refine loop33 IR rfl F6 N6 ⟨y1, _, ts1, _, _, rfl, rfl, rfl, rfl, V6, G7, hne7, hvl1, by omega, hdom7⟩ ?_ ?_
          · rintro j t m₁ nw₁ h tk own hj ⟨g, vs1, ts2, u, u', e1, e2, e3, e4, V, G, hne, hz, hp, hd⟩ ha F N
            rw [m_lay4 e1 e2 e3 e4] at F
            clear e1 e2 e3 e4
            obtain ⟨gc, gr, gsh, gt, go, gdx, gdn, hgx, hgdx⟩ := G.V.parts
            have hfl := front_len ts2
            have htd := two_digits ⟨j, hj⟩
            clear hx hdx N6 F6 IR G7 V6
            k_steps
            have F6 := ‹Fr _ _ _ _›
            have N6 := ‹News _ _ _ _›
            show wpAny _ _ _ _ _ _
            refine append_N F6 ‹(atop.heap_39 _).In _› ‹Top _ _ _ _ _ _› N6 ha G.V (by omega) (by k_room) rfl fun y2 tl2 h13 tk13 F7 N7 ha7 V7 => ?_
            clear F6 N6 F N
            k_steps
            have F8 := ‹Fr _ _ _ _›
            have N8 := ‹News _ _ _ _›
            rw [← front_snoc hne] at F8
            obtain ⟨G', z1, z2⟩ := grow2 G V7 (.leaf (ReprIs.int _ (int_dig (by omega) (by omega)))) htd hj hz hp
            exact LEnd.intro F8 N8 ha7 ⟨y2, _, _, _, _, rfl, rfl, rfl, rfl, V.up Frz.more (Nat.le_refl _), G', by simp, z1, z2, dom_more hd⟩
          · rintro m₁ nw₁ h tk ⟨g, vs1, ts2, u, u', e1, e2, e3, e4, V, G, hne, hz, hp, hd⟩ F N
            rw [m_lay4 e1 e2 e3 e4] at F
            clear e1 e2 e3 e4
            have hfl := front_len ts2
            dsimp only
            k_steps
            have F6 := ‹Fr _ _ _ _›
            have N6 := ‹News _ _ _ _›
            show wpAny _ _ _ _ _ _
            refine strV_N F6 ‹(atop.heap_39 _).In _› ‹Top _ _ _ _ _ _› N6 G (frz_get F6 N6 fun q hq => hq) (dom_get N6 (fun q hq => hq) hd) (by k_room) (by k_units) rfl rfl fun h14 u14 tk14 F9 N9 => ?_
            clear F6 N6
            k_steps
            show wpAny _ _ _ _ _ _
            refine eq_same (vText_front _) ?_
            k_steps
            have F6 := ‹Fr _ _ _ _›
            have N6 := ‹News _ _ _ _›
            show wpAny _ _ _ _ _ _
            refine strV_N F6 ‹(atop.heap_39 _).In _› ‹Top _ _ _ _ _ _› N6 V (frz_get F6 N6 fun q hq => hq) (dom_get N6 (fun q hq => hq) hd) (by k_room) (by k_units) rfl rfl fun h15 u15 tk15 F10 N10 => ?_
            clear F6 N6
            k_steps
            show wpAny _ _ _ _ _ _
            refine eq_same rfl ?_
            k_steps
            have F6 := ‹Fr _ _ _ _›
            have N6 := ‹News _ _ _ _›
            show wpAny _ _ _ _ _ _
            refine wpAny_call (pvec0_spec F6.keep ‹(atop.heap_39 _).In _› ‹Top _ _ _ _ _ _› (by k_room) rfl fun h16 tk16 k16 => ?_)
            have F11 := fr_ext F6 k16
            have N11 := news_ext N6 k16
            clear F6 N6
            dsimp only
            k_steps
            have F6 := ‹Fr _ _ _ _›
            have N6 := ‹News _ _ _ _›
            show wpAny _ _ _ _ _ _
            refine strV_N F6 ‹(atop.heap_39 _).In _› ‹Top _ _ _ _ _ _› N6 (emp_tell (nw := nw₁) (cl := []) ‹(atop.heap_39 _).In _›) (frz_get F6 N6 fun q hq => hq) (fun b hb => by cases hb) (by k_room) (by k_units) rfl rfl fun h17 u17 tk17 F12 N12 => ?_
            clear F6 N6
            k_steps
            show wpAny _ _ _ _ _ _
            refine eq_same vText_nil ?_
            k_steps
end
end
end Mine
theorem PySem.Challenge.cw_im0012_01_holds : PySem.Challenge.rw_im0012_01.Holds :=
  Mine.lawGo
